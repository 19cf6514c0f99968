import JvmDerived
import JvmDerived.Pilot.@@N@@Statement
import JvmDerived.Pilot.@@N@@Code
set_option linter.unusedVariables false
set_option linter.unusedSimpArgs false
namespace Jvm.RoadKit
open Sem ClassFile Op Lib Jvm.Stand Jvm.Free Jvm.LawKit
section New
variable {p : Program} {l : Launch} {e : Env} {R : Room} {s : State} {m : MethodId} {args : Array Value} {below : List Frame} {meth : Method} {c : Code} {T : State} {locs : List Loc} {cells slots : Nat}
theorem retI (X : Stand p l e R s m args below meth c T locs cells slots) (hx : p.tables.exec = Jvm.exec) {pc : Nat} {Ls : Array Slot} {z : Int32} {rest : List Value} (hret : meth.sig.returnType = some .int) (hd : decode c.code pc = .ok (.ireturn, 1)) {fs : List Frame}
    (hl : ∀ (f : JFrame) (acts : List Action), f.method = m → f.locked = none → f.entered = [] → (doReturn e (T.setTop f) acts (some (.int z))).1 = T.setFrames fs) : Steps p.tables e below (T.setTop (mkF m pc Ls (.int z :: rest))) (T.setFrames fs) := by
  have hm' : T.vm.method? m = some meth := X.method'
  have hn : narrow .int (.int z) = .int z := rfl
  show Steps p.tables e below (T.setTop { method := m, pc := pc, locals := Ls, stack := _ :: rest, locked := none }) _
  jvm_step X.here [X.here.top, hx, hd, hm', hret, hn]
  first | (intro acts; rw [hl _ acts rfl rfl rfl]) | rw [hl _ _ rfl rfl rfl]
  exact Steps.refl _
end New
end Jvm.RoadKit
namespace Jvm.Pilot.@@N@@
open Jvm Jvm.ClassFile Sem Op Lib Jvm.Free Jvm.Stand Jvm.LawKit Jvm.RoadKit Bundle Jvm.Pilot.@@N@@.Jvm.D
theorem own_sk {Z : State} {h h' : Heap} {C n d : String} {v : Value} (S : Sta Z h C n d v) (K : Keep h h' []) : Sta Z h' C n d v := by
  obtain ⟨cf, i, k, f, st, cell, h1, h2, h3, h4, h5, r⟩ := S
  exact ⟨cf, i, k, f, st, cell, h1, h2, h3, h4, K.2.1 _ _ h5 nin0, r⟩
theorem own_sk1 {Z : State} {h h' : Heap} {C C' n d : String} {a : Addr} {v : Value} (S : Sta Z h C n d v) (E : Exa Z h a C') (K : Keep h h' [a]) : Sta Z h' C n d v := by
  obtain ⟨cf, i, k, f, st, cell, h1, h2, h3, h4, h5, h6, h7⟩ := S
  have ne : st ≠ a := by
    rintro rfl
    obtain ⟨c', k', e1, -, -, e4, -⟩ := E
    cases h5.symm.trans e1
    rw [h6] at e4; cases e4
  exact ⟨cf, i, k, f, st, cell, h1, h2, h3, h4, K.2.1 _ _ h5 (ninS ne nin0), h6, h7⟩
/-- what take leaves in the array, as the copy's law says it -/
def own_tkv (vs : List Value) (f u b : Int32) : List Value := (vs.take (f + (u * b)).toNatClampNeg ++ ((List.range (b - (1 : Int32)).toNatClampNeg).map fun i => vs.getD (((f + (u * b)) + (1 : Int32)).toNatClampNeg + i) (.int (0 : Int32))) ++ vs.drop ((f + (u * b)).toNatClampNeg + (b - (1 : Int32)).toNatClampNeg)).set (((f + (u * b)) + b) - (1 : Int32)).toNatClampNeg (.int (0 : Int32))
def own_bd (p : Int32) : Int32 := (1 : Int32) + ((p &&& (3 : Int32)) % (3 : Int32))
def own_fs (p : Int32) : Int32 := ((((p.toUInt32 >>> ((2 : Int32) &&& 31).toUInt32).toInt32)) &&& (3 : Int32)) % (3 : Int32)
def own_bf (p : Int32) : Int32 := (((p.toUInt32 >>> ((4 : Int32) &&& 31).toUInt32).toInt32)) &&& (1 : Int32)
theorem own_m3 (x : Int32) : ((x &&& (3 : Int32)) % (3 : Int32)) = (0 : Int32) ∨ ((x &&& (3 : Int32)) % (3 : Int32)) = (1 : Int32) ∨ ((x &&& (3 : Int32)) % (3 : Int32)) = (2 : Int32) := by
  have e := c_mask x 3 2 (by decide) (by decide)
  have q := (c_irem (x &&& (3 : Int32)) 3 3 rfl).1 (by omega)
  simp only [← Int32.toInt_inj]
  have t0 : (0 : Int32).toInt = 0 := rfl
  have t1 : (1 : Int32).toInt = 1 := rfl
  have t2 : (2 : Int32).toInt = 2 := rfl
  omega
theorem own_bd3 (p : Int32) : own_bd p = (1 : Int32) ∨ own_bd p = (2 : Int32) ∨ own_bd p = (3 : Int32) := by
  unfold own_bd
  rcases own_m3 p with h | h | h <;> rw [h] <;> decide
theorem own_fs3 (p : Int32) : own_fs p = (0 : Int32) ∨ own_fs p = (1 : Int32) ∨ own_fs p = (2 : Int32) := own_m3 _
theorem own_bf2 (p : Int32) : own_bf p = (0 : Int32) ∨ own_bf p = (1 : Int32) := and_one _
/-- every triple that may come -/
def own_P (b f u : Int32) : Prop := (b = (1 : Int32) ∨ b = (2 : Int32) ∨ b = (3 : Int32)) ∧ (f = (0 : Int32) ∨ f = (1 : Int32) ∨ f = (2 : Int32)) ∧ (u = (0 : Int32) ∨ u = (1 : Int32))
theorem own_Pp (p : Int32) : own_P (own_bd p) (own_fs p) (own_bf p) := ⟨own_bd3 p, own_fs3 p, own_bf2 p⟩
theorem own_in {b f u : Int32} (h : own_P b f u) : ¬ ((f + (u * b)) + (1 : Int32)) < 0 ∧ ¬ (f + (u * b)) < 0 ∧ ¬ (b - (1 : Int32)) < 0 ∧ ((f + (u * b)) + (1 : Int32)).toNatClampNeg + (b - (1 : Int32)).toNatClampNeg ≤ (8 : Int32).toNatClampNeg ∧ (f + (u * b)).toNatClampNeg + (b - (1 : Int32)).toNatClampNeg ≤ (8 : Int32).toNatClampNeg ∧ (¬ (((f + (u * b)) + b) - (1 : Int32)) < 0 ∧ (((f + (u * b)) + b) - (1 : Int32)) < (8 : Int32)) := by
  obtain ⟨h1 | h1 | h1, h2 | h2 | h2, h3 | h3⟩ := h <;> subst h1 h2 h3 <;> decide
theorem own_len8 {vs : List Value} {d n s j : Nat} (hv : vs.length = 8) (h : d + n ≤ 8) (hj : j < 8) : j < (vs.take d ++ ((List.range n).map fun i => vs.getD (s + i) (.int (0 : Int32))) ++ vs.drop (d + n)).length := by
  simp only [List.length_append, List.length_take, List.length_map, List.length_range, List.length_drop, hv]; omega
/-- ok's answer -/
def own_want (xs : List Int32) (i st bd : Int32) : Int32 := if i < st then xs.getD i.toNatClampNeg 0 else if i < st + bd then (if i = (st + bd) - (1 : Int32) then 0 else xs.getD (i + (1 : Int32)).toNatClampNeg 0) else xs.getD i.toNatClampNeg 0
def own_ok (xs ys : List Int32) (i st bd : Int32) : Int32 := if ys.getD i.toNatClampNeg 0 = own_want xs i st bd then 1 else 0
theorem own_getD (xs : List Int32) (n : Nat) : (xs.map Value.int).getD n (.int (0 : Int32)) = .int (xs.getD n 0) := by
  simp only [List.getD_eq_getElem?_getD, List.getElem?_map]
  cases xs[n]? <;> rfl
theorem d4_0 : decode jdk_71_method_1_code 0 = .ok (.aload_n 0, 1) := by decide +kernel
theorem d4_1 : decode jdk_71_method_1_code 1 = .ok (.invokespecial 1, 3) := by decide +kernel
theorem d4_4 : decode jdk_71_method_1_code 4 = .ok (.return_, 1) := by decide +kernel
theorem pn_java_util_AbstractMap : plainName "java/util/AbstractMap" = true := by first | (simp [plainName, overriddenIn]; done) | decide +kernel
theorem ef_own_am (m : MethodId) (x0 : Addr) : entryFrame m #[(.ref x0)] 1 = mkF m 0 #[.val (.ref x0)] [] := by first | (simp [entryFrame, mkF, argsToLocals, Value.category]; done) | rfl
def Qown_am (Z : State) (a1 : Addr) (h0 : Heap) (n0 : Nat) (v : Option Value) (h : Heap) (L : List Loc) : Prop := v = none ∧ Fr n0 L ∧ h = h0
set_option maxRecDepth 65536 in
set_option maxHeartbeats 40000000 in
theorem own_am (l : Launch) (Z : State) (a0 : Array Value) (hw : ∀ d ∈ tables_1, d.before a0 Z = true) (ws : List Jvm.Cond) (a1 : Addr) (h0 : Heap) (n0 : Nat) (Z0 : n0 ≤ h0.size) :
    MetFree l (⟨"java/util/AbstractMap", "<init>", "()V"⟩ : MethodName) (head1 (Jvm.Cond.code (⟨"java/util/AbstractMap", "<init>", "()V"⟩ : MethodName) jdk_71_method_1_code 1 none :: ws) ({ frames := 1, cells := 0, slots := 0, locals := 12 } : Room)) (fun a U => a = #[(.ref a1)] ∧ Z.Warmed39 U.vm ∧ U.heap = h0) (fun _ _ _ _ _ => True) (fun _ U o U' => ∃ v L, o = .returned v ∧ Qown_am Z a1 h0 n0 v U'.heap L ∧ FrameEnd U o U' L ({ frames := 1, cells := 0, slots := 0, locals := 12 } : Room).cells ({ frames := 1, cells := 0, slots := 0, locals := 12 } : Room).slots) := by
  refine MetFree.of_bodySF (plainFor_of_name pn_java_util_AbstractMap) hisR ?_
  intro p e s m args below meth c s₁ Bd hml0 hP hK
  obtain ⟨rfl, hZ, hh⟩ := hP
  have hx := Bd.exec
  have hby := Bd.bytes
  have hml : c.maxLocals = 1 := hml0
  have hown : s.vm.findClass "java/util/AbstractMap" = some m.cls := findClass_of_methodNamed Bd.named
  have hnm := (name_of_methodNamed Bd.named Bd.method).1
  have X0 : Stand p l e ({ frames := 1, cells := 0, slots := 0, locals := 12 } : Room) s m #[(.ref a1)] below meth c s₁ [] 0 0 := Stand.of_body Bd
  have e0 : s₁.heap = h0 := by rw [← hh, Bd.state]; rfl
  have N0 := Fr.nil n0
  have pre0 : ∀ t, Steps p.tables e below (s₁.setTop (mkF m 0 #[.val (.ref a1)] [])) t → Steps p.tables e below (s₁.setTop (entryFrame m #[(.ref a1)] 1)) t := fun t k => castTop (ef_own_am m (a1)) k
  obtain ⟨T1, X1, e1, st1⟩ := initO X0 hx hZ hown (hw _ (List.mem_of_getElem? (i := 22) rfl)) (hw _ (List.mem_of_getElem? (i := 8) rfl)) (hw _ (List.mem_of_getElem? (i := 9) rfl)) e0 (g := (mkF m 1 #[.val (.ref a1)] [(.ref a1)])) rfl (by rw [hml]; rfl) rfl (hb hby d4_1) (by decide) (W := 0) (by show 2 * 0 + _ ≤ _; exact Nat.le_of_eq rfl) (by decide)
  obtain ⟨fs, hr, hrun, hended, hW, hsame⟩ := X1.leave (v := none) (fun _ => rfl)
  refine ⟨_, _, pre0 _ ?_, hrun, hended, _, _, rfl, ?_, ⟨_, rfl⟩, hW, hsame.mono (by decide) (by decide)⟩
  · show Steps p.tables e below (s₁.setTop (mkF m 0 #[.val (.ref a1)] [])) _
    refine XS.aloadN X0.here hx rfl (hb hby d4_0) rfl rfl ?_
    show Steps p.tables e below (s₁.setTop (mkF m 1 #[.val (.ref a1)] [(.ref a1)])) _
    refine st1 _ ?_
    show Steps p.tables e below (T1.setTop (mkF m 4 #[.val (.ref a1)] [])) _
    exact X1.returnOut hx Bd.returns (hb hby d4_4) hr
  · show Qown_am Z a1 h0 n0 _ T1.heap _
    rw [e1]
    exact ⟨rfl, N0, rfl⟩
theorem d7_0 : decode jdk_22_method_1_code 0 = .ok (.aload_n 0, 1) := by decide +kernel
theorem d7_1 : decode jdk_22_method_1_code 1 = .ok (.invokespecial 1, 3) := by decide +kernel
theorem d7_4 : decode jdk_22_method_1_code 4 = .ok (.return_, 1) := by decide +kernel
theorem pn_java_util_AbstractCollection : plainName "java/util/AbstractCollection" = true := by first | (simp [plainName, overriddenIn]; done) | decide +kernel
theorem ef_own_ac (m : MethodId) (x0 : Addr) : entryFrame m #[(.ref x0)] 1 = mkF m 0 #[.val (.ref x0)] [] := by first | (simp [entryFrame, mkF, argsToLocals, Value.category]; done) | rfl
def Qown_ac (Z : State) (a1 : Addr) (h0 : Heap) (n0 : Nat) (v : Option Value) (h : Heap) (L : List Loc) : Prop := v = none ∧ Fr n0 L ∧ h = h0
set_option maxRecDepth 65536 in
set_option maxHeartbeats 40000000 in
theorem own_ac (l : Launch) (Z : State) (a0 : Array Value) (hw : ∀ d ∈ tables_1, d.before a0 Z = true) (ws : List Jvm.Cond) (a1 : Addr) (h0 : Heap) (n0 : Nat) (Z0 : n0 ≤ h0.size) :
    MetFree l (⟨"java/util/AbstractCollection", "<init>", "()V"⟩ : MethodName) (head1 (Jvm.Cond.code (⟨"java/util/AbstractCollection", "<init>", "()V"⟩ : MethodName) jdk_22_method_1_code 1 none :: ws) ({ frames := 1, cells := 0, slots := 0, locals := 12 } : Room)) (fun a U => a = #[(.ref a1)] ∧ Z.Warmed39 U.vm ∧ U.heap = h0) (fun _ _ _ _ _ => True) (fun _ U o U' => ∃ v L, o = .returned v ∧ Qown_ac Z a1 h0 n0 v U'.heap L ∧ FrameEnd U o U' L ({ frames := 1, cells := 0, slots := 0, locals := 12 } : Room).cells ({ frames := 1, cells := 0, slots := 0, locals := 12 } : Room).slots) := by
  refine MetFree.of_bodySF (plainFor_of_name pn_java_util_AbstractCollection) hisR ?_
  intro p e s m args below meth c s₁ Bd hml0 hP hK
  obtain ⟨rfl, hZ, hh⟩ := hP
  have hx := Bd.exec
  have hby := Bd.bytes
  have hml : c.maxLocals = 1 := hml0
  have hown : s.vm.findClass "java/util/AbstractCollection" = some m.cls := findClass_of_methodNamed Bd.named
  have hnm := (name_of_methodNamed Bd.named Bd.method).1
  have X0 : Stand p l e ({ frames := 1, cells := 0, slots := 0, locals := 12 } : Room) s m #[(.ref a1)] below meth c s₁ [] 0 0 := Stand.of_body Bd
  have e0 : s₁.heap = h0 := by rw [← hh, Bd.state]; rfl
  have N0 := Fr.nil n0
  have pre0 : ∀ t, Steps p.tables e below (s₁.setTop (mkF m 0 #[.val (.ref a1)] [])) t → Steps p.tables e below (s₁.setTop (entryFrame m #[(.ref a1)] 1)) t := fun t k => castTop (ef_own_ac m (a1)) k
  obtain ⟨T1, X1, e1, st1⟩ := initO X0 hx hZ hown (hw _ (List.mem_of_getElem? (i := 48) rfl)) (hw _ (List.mem_of_getElem? (i := 8) rfl)) (hw _ (List.mem_of_getElem? (i := 9) rfl)) e0 (g := (mkF m 1 #[.val (.ref a1)] [(.ref a1)])) rfl (by rw [hml]; rfl) rfl (hb hby d7_1) (by decide) (W := 0) (by show 2 * 0 + _ ≤ _; exact Nat.le_of_eq rfl) (by decide)
  obtain ⟨fs, hr, hrun, hended, hW, hsame⟩ := X1.leave (v := none) (fun _ => rfl)
  refine ⟨_, _, pre0 _ ?_, hrun, hended, _, _, rfl, ?_, ⟨_, rfl⟩, hW, hsame.mono (by decide) (by decide)⟩
  · show Steps p.tables e below (s₁.setTop (mkF m 0 #[.val (.ref a1)] [])) _
    refine XS.aloadN X0.here hx rfl (hb hby d7_0) rfl rfl ?_
    show Steps p.tables e below (s₁.setTop (mkF m 1 #[.val (.ref a1)] [(.ref a1)])) _
    refine st1 _ ?_
    show Steps p.tables e below (T1.setTop (mkF m 4 #[.val (.ref a1)] [])) _
    exact X1.returnOut hx Bd.returns (hb hby d7_4) hr
  · show Qown_ac Z a1 h0 n0 _ T1.heap _
    rw [e1]
    exact ⟨rfl, N0, rfl⟩
theorem d3_0 : decode jdk_69_method_7_code 0 = .ok (.aload_n 0, 1) := by decide +kernel
theorem d3_1 : decode jdk_69_method_7_code 1 = .ok (.invokespecial 43, 3) := by decide +kernel
theorem pd___V : parseMethodDescriptor "()V" = some ⟨[], none⟩ := by decide +kernel
theorem d3_4 : decode jdk_69_method_7_code 4 = .ok (.aload_n 0, 1) := by decide +kernel
theorem d3_5 : decode jdk_69_method_7_code 5 = .ok (.ldc 92, 2) := by decide +kernel
theorem d3_7 : decode jdk_69_method_7_code 7 = .ok (.putfield 81, 3) := by decide +kernel
theorem d3_10 : decode jdk_69_method_7_code 10 = .ok (.return_, 1) := by decide +kernel
theorem pn_java_util_HashMap : plainName "java/util/HashMap" = true := by first | (simp [plainName, overriddenIn]; done) | decide +kernel
theorem ef_own_hm (m : MethodId) (x0 : Addr) : entryFrame m #[(.ref x0)] 1 = mkF m 0 #[.val (.ref x0)] [] := by first | (simp [entryFrame, mkF, argsToLocals, Value.category]; done) | rfl
def Qown_hm (Z : State) (a1 : Addr) (h0 : Heap) (n0 : Nat) (v : Option Value) (h : Heap) (L : List Loc) : Prop := v = none ∧ Fr n0 L ∧ Keep h0 h [a1]
set_option maxRecDepth 65536 in
set_option maxHeartbeats 40000000 in
theorem own_hm (l : Launch) (Z : State) (a0 : Array Value) (hw : ∀ d ∈ tables_1, d.before a0 Z = true) (ws : List Jvm.Cond) (a1 : Addr) (h0 : Heap) (n0 : Nat) (Z0 : n0 ≤ h0.size) (F1 : Fld Z h0 a1 "java/util/HashMap" "loadFactor" "F" (.float 0)) (E1 : Exa Z h0 a1 "java/util/HashMap") (g_a1 : n0 ≤ a1) :
    MetFree l (⟨"java/util/HashMap", "<init>", "()V"⟩ : MethodName) (head1 (Jvm.Cond.code (⟨"java/util/HashMap", "<init>", "()V"⟩ : MethodName) jdk_69_method_7_code 1 none :: ws) ({ frames := 2, cells := 0, slots := 0, locals := 24 } : Room)) (fun a U => a = #[(.ref a1)] ∧ Z.Warmed39 U.vm ∧ U.heap = h0) (fun _ _ _ _ _ => True) (fun _ U o U' => ∃ v L, o = .returned v ∧ Qown_hm Z a1 h0 n0 v U'.heap L ∧ FrameEnd U o U' L ({ frames := 2, cells := 0, slots := 0, locals := 24 } : Room).cells ({ frames := 2, cells := 0, slots := 0, locals := 24 } : Room).slots) := by
  refine MetFree.of_bodySF (plainFor_of_name pn_java_util_HashMap) hisR ?_
  intro p e s m args below meth c s₁ Bd hml0 hP hK
  obtain ⟨rfl, hZ, hh⟩ := hP
  have hx := Bd.exec
  have hby := Bd.bytes
  have hml : c.maxLocals = 1 := hml0
  have hown : s.vm.findClass "java/util/HashMap" = some m.cls := findClass_of_methodNamed Bd.named
  have hnm := (name_of_methodNamed Bd.named Bd.method).1
  have X0 : Stand p l e ({ frames := 2, cells := 0, slots := 0, locals := 24 } : Room) s m #[(.ref a1)] below meth c s₁ [] 0 0 := Stand.of_body Bd
  have e0 : s₁.heap = h0 := by rw [← hh, Bd.state]; rfl
  have N0 := Fr.nil n0
  have pre0 : ∀ t, Steps p.tables e below (s₁.setTop (mkF m 0 #[.val (.ref a1)] [])) t → Steps p.tables e below (s₁.setTop (entryFrame m #[(.ref a1)] 1)) t := fun t k => castTop (ef_own_hm m (a1)) k
  obtain ⟨_, _, ⟨T1, L1, k1, n1⟩, -, X1, ⟨Lc1, hQ1, l1, y1, z1⟩, st1⟩ := X0.specialBack hx (y := (⟨"java/util/AbstractMap", "<init>", "()V"⟩ : MethodName)) rfl hown (mvT hZ (hw _ (List.mem_of_getElem? (i := 16) rfl))) (mvT hZ (hw _ (List.mem_of_getElem? (i := 17) rfl))) (mvT hZ (hw _ (List.mem_of_getElem? (i := 21) rfl))) (by decide) (backOf (W := 0) (own_am l Z a0 hw [] a1  h0 n0 Z0 ) hZ (hw _ (List.mem_of_getElem? (i := 21) rfl)) (hw _ (List.mem_of_getElem? (i := 20) rfl)) (by decide) (by decide)) (g := (mkF m 1 #[.val (.ref a1)] [(.ref a1)])) rfl (by rw [hml]; rfl) (Steps.refl _) (a := a1) (argsL := []) (rest := []) (lenOf pd___V rfl) rfl (by show 2 * 0 + _ ≤ _; exact Nat.le_of_eq rfl) (hb hby d3_1) (fun _ _ => ⟨rfl, e0, (by decide : 0 + 0 ≤ _), (by decide : 0 + 0 ≤ _)⟩)
  dsimp only [Pt.U, Pt.locs, Pt.cells, Pt.slots] at X1 l1 y1 z1 st1 hQ1
  replace X1 := X1.more (Nat.le_of_eq (show k1 = 0 from y1)) (Nat.le_of_eq (show n1 = 0 from z1))
  obtain ⟨rfl, Nq1, e1⟩ := hQ1
  have N1 : Fr n0 L1 := by rw [l1]; exact Fr.app N0 Nq1
  obtain ⟨T2, h2, X2, e2, W2, st2⟩ := putF X1 hx hZ hown (host := "") (Or.inl (hw _ (List.mem_of_getElem? (i := 24) rfl))) Via.refl e1 F1 E1 (Or.inr ⟨(hw _ (List.mem_of_getElem? (i := 25) rfl)), rfl, hnm⟩) (hw _ (List.mem_of_getElem? (i := 11) rfl)) (ty := .float) (by decide) rfl rfl (g := (mkF m 7 #[.val (.ref a1)] [(.float (1061158912 : UInt32)), (.ref a1)])) rfl rfl (hb hby d3_7)
  have Fw2 := F1.same W2
  have K2 : Keep h0 h2 [a1] := (Keep.refl h0 [a1]).wr W2 (Or.inl (List.mem_of_getElem? (i := 0) rfl))
  have N2 := Fr.snoc X2 N1 g_a1
  have Z2 : n0 ≤ h2.size := Nat.le_trans Z0 (Keep.of_wr W2).1
  obtain ⟨fs, hr, hrun, hended, hW, hsame⟩ := X2.leave (v := none) (fun _ => rfl)
  refine ⟨_, _, pre0 _ ?_, hrun, hended, _, _, rfl, ?_, ⟨_, rfl⟩, hW, hsame.mono (by decide) (by decide)⟩
  · show Steps p.tables e below (s₁.setTop (mkF m 0 #[.val (.ref a1)] [])) _
    refine XS.aloadN X0.here hx rfl (hb hby d3_0) rfl rfl ?_
    show Steps p.tables e below (s₁.setTop (mkF m 1 #[.val (.ref a1)] [(.ref a1)])) _
    refine st1.trans ?_
    show Steps p.tables e below (T1.setTop (mkF m 4 #[.val (.ref a1)] [])) _
    refine XS.aloadN X1.here hx rfl (hb hby d3_4) rfl rfl ?_
    show Steps p.tables e below (T1.setTop (mkF m 5 #[.val (.ref a1)] [(.ref a1)])) _
    refine X1.ldcFloatC hx hown (mvT hZ (hw _ (List.mem_of_getElem? (i := 23) rfl))) (g := (mkF m 5 #[.val (.ref a1)] [(.ref a1)])) rfl (hb hby d3_5) _ ?_
    show Steps p.tables e below (T1.setTop (mkF m 7 #[.val (.ref a1)] [(.float (1061158912 : UInt32)), (.ref a1)])) _
    refine st2 _ ?_
    show Steps p.tables e below (T2.setTop (mkF m 10 #[.val (.ref a1)] [])) _
    exact X2.returnOut hx Bd.returns (hb hby d3_10) hr
  · show Qown_hm Z a1 h0 n0 _ T2.heap _
    rw [e2]
    exact ⟨rfl, N2, K2⟩
theorem d6_0 : decode jdk_39_method_1_code 0 = .ok (.aload_n 0, 1) := by decide +kernel
theorem d6_1 : decode jdk_39_method_1_code 1 = .ok (.invokespecial 1, 3) := by decide +kernel
theorem d6_4 : decode jdk_39_method_1_code 4 = .ok (.aload_n 0, 1) := by decide +kernel
theorem d6_5 : decode jdk_39_method_1_code 5 = .ok (.iconst 0, 1) := by decide +kernel
theorem d6_6 : decode jdk_39_method_1_code 6 = .ok (.putfield 7, 3) := by decide +kernel
theorem d6_9 : decode jdk_39_method_1_code 9 = .ok (.return_, 1) := by decide +kernel
theorem pn_java_util_AbstractList : plainName "java/util/AbstractList" = true := by first | (simp [plainName, overriddenIn]; done) | decide +kernel
theorem ef_own_al0 (m : MethodId) (x0 : Addr) : entryFrame m #[(.ref x0)] 1 = mkF m 0 #[.val (.ref x0)] [] := by first | (simp [entryFrame, mkF, argsToLocals, Value.category]; done) | rfl
def Qown_al0 (Z : State) (a1 : Addr) (h0 : Heap) (n0 : Nat) (v : Option Value) (h : Heap) (L : List Loc) : Prop := v = none ∧ Fr n0 L ∧ Keep h0 h [a1] ∧ Wr h0 h a1 (Jvm.RoadKit.slotOf Z "java/util/AbstractList" "modCount" "I") (.int (0 : Int32))
set_option maxRecDepth 65536 in
set_option maxHeartbeats 40000000 in
theorem own_al0 (l : Launch) (Z : State) (a0 : Array Value) (hw : ∀ d ∈ tables_1, d.before a0 Z = true) (ws : List Jvm.Cond) (a1 : Addr) (h0 : Heap) (n0 : Nat) (Z0 : n0 ≤ h0.size) (F1 : Fld Z h0 a1 "java/util/AbstractList" "modCount" "I" (.int (0 : Int32))) (E1 : Exa Z h0 a1 "java/util/ArrayList") (g_a1 : n0 ≤ a1) :
    MetFree l (⟨"java/util/AbstractList", "<init>", "()V"⟩ : MethodName) (head1 (Jvm.Cond.code (⟨"java/util/AbstractList", "<init>", "()V"⟩ : MethodName) jdk_39_method_1_code 1 none :: ws) ({ frames := 2, cells := 0, slots := 0, locals := 24 } : Room)) (fun a U => a = #[(.ref a1)] ∧ Z.Warmed39 U.vm ∧ U.heap = h0) (fun _ _ _ _ _ => True) (fun _ U o U' => ∃ v L, o = .returned v ∧ Qown_al0 Z a1 h0 n0 v U'.heap L ∧ FrameEnd U o U' L ({ frames := 2, cells := 0, slots := 0, locals := 24 } : Room).cells ({ frames := 2, cells := 0, slots := 0, locals := 24 } : Room).slots) := by
  refine MetFree.of_bodySF (plainFor_of_name pn_java_util_AbstractList) hisR ?_
  intro p e s m args below meth c s₁ Bd hml0 hP hK
  obtain ⟨rfl, hZ, hh⟩ := hP
  have hx := Bd.exec
  have hby := Bd.bytes
  have hml : c.maxLocals = 1 := hml0
  have hown : s.vm.findClass "java/util/AbstractList" = some m.cls := findClass_of_methodNamed Bd.named
  have hnm := (name_of_methodNamed Bd.named Bd.method).1
  have X0 : Stand p l e ({ frames := 2, cells := 0, slots := 0, locals := 24 } : Room) s m #[(.ref a1)] below meth c s₁ [] 0 0 := Stand.of_body Bd
  have e0 : s₁.heap = h0 := by rw [← hh, Bd.state]; rfl
  have N0 := Fr.nil n0
  have pre0 : ∀ t, Steps p.tables e below (s₁.setTop (mkF m 0 #[.val (.ref a1)] [])) t → Steps p.tables e below (s₁.setTop (entryFrame m #[(.ref a1)] 1)) t := fun t k => castTop (ef_own_al0 m (a1)) k
  obtain ⟨_, _, ⟨T1, L1, k1, n1⟩, -, X1, ⟨Lc1, hQ1, l1, y1, z1⟩, st1⟩ := X0.specialBack hx (y := (⟨"java/util/AbstractCollection", "<init>", "()V"⟩ : MethodName)) rfl hown (mvT hZ (hw _ (List.mem_of_getElem? (i := 42) rfl))) (mvT hZ (hw _ (List.mem_of_getElem? (i := 43) rfl))) (mvT hZ (hw _ (List.mem_of_getElem? (i := 47) rfl))) (by decide) (backOf (W := 0) (own_ac l Z a0 hw [] a1  h0 n0 Z0 ) hZ (hw _ (List.mem_of_getElem? (i := 47) rfl)) (hw _ (List.mem_of_getElem? (i := 46) rfl)) (by decide) (by decide)) (g := (mkF m 1 #[.val (.ref a1)] [(.ref a1)])) rfl (by rw [hml]; rfl) (Steps.refl _) (a := a1) (argsL := []) (rest := []) (lenOf pd___V rfl) rfl (by show 2 * 0 + _ ≤ _; exact Nat.le_of_eq rfl) (hb hby d6_1) (fun _ _ => ⟨rfl, e0, (by decide : 0 + 0 ≤ _), (by decide : 0 + 0 ≤ _)⟩)
  dsimp only [Pt.U, Pt.locs, Pt.cells, Pt.slots] at X1 l1 y1 z1 st1 hQ1
  replace X1 := X1.more (Nat.le_of_eq (show k1 = 0 from y1)) (Nat.le_of_eq (show n1 = 0 from z1))
  obtain ⟨rfl, Nq1, e1⟩ := hQ1
  have N1 : Fr n0 L1 := by rw [l1]; exact Fr.app N0 Nq1
  obtain ⟨T2, h2, X2, e2, W2, st2⟩ := putF X1 hx hZ hown (host := "") (Or.inl (hw _ (List.mem_of_getElem? (i := 49) rfl))) Via.refl e1 F1 E1 (Or.inl (hw _ (List.mem_of_getElem? (i := 50) rfl))) (hw _ (List.mem_of_getElem? (i := 31) rfl)) (ty := .int) (by decide) rfl rfl (g := (mkF m 6 #[.val (.ref a1)] [(.int (0 : Int32)), (.ref a1)])) rfl rfl (hb hby d6_6)
  have Fw2 := F1.same W2
  have K2 : Keep h0 h2 [a1] := (Keep.refl h0 [a1]).wr W2 (Or.inl (List.mem_of_getElem? (i := 0) rfl))
  have N2 := Fr.snoc X2 N1 g_a1
  have Z2 : n0 ≤ h2.size := Nat.le_trans Z0 (Keep.of_wr W2).1
  obtain ⟨fs, hr, hrun, hended, hW, hsame⟩ := X2.leave (v := none) (fun _ => rfl)
  refine ⟨_, _, pre0 _ ?_, hrun, hended, _, _, rfl, ?_, ⟨_, rfl⟩, hW, hsame.mono (by decide) (by decide)⟩
  · show Steps p.tables e below (s₁.setTop (mkF m 0 #[.val (.ref a1)] [])) _
    refine XS.aloadN X0.here hx rfl (hb hby d6_0) rfl rfl ?_
    show Steps p.tables e below (s₁.setTop (mkF m 1 #[.val (.ref a1)] [(.ref a1)])) _
    refine st1.trans ?_
    show Steps p.tables e below (T1.setTop (mkF m 4 #[.val (.ref a1)] [])) _
    refine XS.aloadN X1.here hx rfl (hb hby d6_4) rfl rfl ?_
    show Steps p.tables e below (T1.setTop (mkF m 5 #[.val (.ref a1)] [(.ref a1)])) _
    refine XS.iconst X1.here hx rfl (hb hby d6_5) ?_
    show Steps p.tables e below (T1.setTop (mkF m 6 #[.val (.ref a1)] [(.int (0 : Int32)), (.ref a1)])) _
    refine st2 _ ?_
    show Steps p.tables e below (T2.setTop (mkF m 9 #[.val (.ref a1)] [])) _
    exact X2.returnOut hx Bd.returns (hb hby d6_9) hr
  · show Qown_al0 Z a1 h0 n0 _ T2.heap _
    rw [e2]
    exact ⟨rfl, N2, K2, W2⟩
theorem d5_0 : decode jdk_38_method_2_code 0 = .ok (.aload_n 0, 1) := by decide +kernel
theorem d5_1 : decode jdk_38_method_2_code 1 = .ok (.invokespecial 1, 3) := by decide +kernel
theorem d5_4 : decode jdk_38_method_2_code 4 = .ok (.aload_n 0, 1) := by decide +kernel
theorem d5_5 : decode jdk_38_method_2_code 5 = .ok (.getstatic 39, 3) := by decide +kernel
theorem d5_8 : decode jdk_38_method_2_code 8 = .ok (.putfield 9, 3) := by decide +kernel
theorem d5_11 : decode jdk_38_method_2_code 11 = .ok (.return_, 1) := by decide +kernel
theorem pn_java_util_ArrayList : plainName "java/util/ArrayList" = true := by first | (simp [plainName, overriddenIn]; done) | decide +kernel
theorem ef_own_al (m : MethodId) (x0 : Addr) : entryFrame m #[(.ref x0)] 1 = mkF m 0 #[.val (.ref x0)] [] := by first | (simp [entryFrame, mkF, argsToLocals, Value.category]; done) | rfl
def Qown_al (Z : State) (a1 : Addr) (d1 : Addr) (h0 : Heap) (n0 : Nat) (v : Option Value) (h : Heap) (L : List Loc) : Prop := v = none ∧ Fr n0 L ∧ Keep h0 h [a1]
set_option maxRecDepth 65536 in
set_option maxHeartbeats 40000000 in
theorem own_al (l : Launch) (Z : State) (a0 : Array Value) (hw : ∀ d ∈ tables_1, d.before a0 Z = true) (ws : List Jvm.Cond) (a1 : Addr) (d1 : Addr) (h0 : Heap) (n0 : Nat) (Z0 : n0 ≤ h0.size) (F1 : Fld Z h0 a1 "java/util/AbstractList" "modCount" "I" (.int (0 : Int32))) (F2 : Fld Z h0 a1 "java/util/ArrayList" "elementData" "[Ljava/lang/Object;" .null) (E1 : Exa Z h0 a1 "java/util/ArrayList") (g_a1 : n0 ≤ a1) (S1 : Sta Z h0 "java/util/ArrayList" "DEFAULTCAPACITY_EMPTY_ELEMENTDATA" "[Ljava/lang/Object;" (.ref d1)) :
    MetFree l (⟨"java/util/ArrayList", "<init>", "()V"⟩ : MethodName) (head1 (Jvm.Cond.code (⟨"java/util/ArrayList", "<init>", "()V"⟩ : MethodName) jdk_38_method_2_code 1 none :: ws) ({ frames := 3, cells := 0, slots := 0, locals := 36 } : Room)) (fun a U => a = #[(.ref a1)] ∧ Z.Warmed39 U.vm ∧ U.heap = h0) (fun _ _ _ _ _ => True) (fun _ U o U' => ∃ v L, o = .returned v ∧ Qown_al Z a1 d1 h0 n0 v U'.heap L ∧ FrameEnd U o U' L ({ frames := 3, cells := 0, slots := 0, locals := 36 } : Room).cells ({ frames := 3, cells := 0, slots := 0, locals := 36 } : Room).slots) := by
  refine MetFree.of_bodySF (plainFor_of_name pn_java_util_ArrayList) hisR ?_
  intro p e s m args below meth c s₁ Bd hml0 hP hK
  obtain ⟨rfl, hZ, hh⟩ := hP
  have hx := Bd.exec
  have hby := Bd.bytes
  have hml : c.maxLocals = 1 := hml0
  have hown : s.vm.findClass "java/util/ArrayList" = some m.cls := findClass_of_methodNamed Bd.named
  have hnm := (name_of_methodNamed Bd.named Bd.method).1
  have X0 : Stand p l e ({ frames := 3, cells := 0, slots := 0, locals := 36 } : Room) s m #[(.ref a1)] below meth c s₁ [] 0 0 := Stand.of_body Bd
  have e0 : s₁.heap = h0 := by rw [← hh, Bd.state]; rfl
  have N0 := Fr.nil n0
  have pre0 : ∀ t, Steps p.tables e below (s₁.setTop (mkF m 0 #[.val (.ref a1)] [])) t → Steps p.tables e below (s₁.setTop (entryFrame m #[(.ref a1)] 1)) t := fun t k => castTop (ef_own_al m (a1)) k
  obtain ⟨_, _, ⟨T1, L1, k1, n1⟩, -, X1, ⟨Lc1, hQ1, l1, y1, z1⟩, st1⟩ := X0.specialBack hx (y := (⟨"java/util/AbstractList", "<init>", "()V"⟩ : MethodName)) rfl hown (mvT hZ (hw _ (List.mem_of_getElem? (i := 36) rfl))) (mvT hZ (hw _ (List.mem_of_getElem? (i := 37) rfl))) (mvT hZ (hw _ (List.mem_of_getElem? (i := 41) rfl))) (by decide) (backOf (W := 0) (own_al0 l Z a0 hw [] a1  h0 n0 Z0 F1 E1 g_a1) hZ (hw _ (List.mem_of_getElem? (i := 41) rfl)) (hw _ (List.mem_of_getElem? (i := 40) rfl)) (by decide) (by decide)) (g := (mkF m 1 #[.val (.ref a1)] [(.ref a1)])) rfl (by rw [hml]; rfl) (Steps.refl _) (a := a1) (argsL := []) (rest := []) (lenOf pd___V rfl) rfl (by show 2 * 0 + _ ≤ _; exact Nat.le_of_eq rfl) (hb hby d5_1) (fun _ _ => ⟨rfl, e0, (by decide : 0 + 0 ≤ _), (by decide : 0 + 0 ≤ _)⟩)
  dsimp only [Pt.U, Pt.locs, Pt.cells, Pt.slots] at X1 l1 y1 z1 st1 hQ1
  replace X1 := X1.more (Nat.le_of_eq (show k1 = 0 from y1)) (Nat.le_of_eq (show n1 = 0 from z1))
  obtain ⟨rfl, Nq1, Kq1, Wm⟩ := hQ1
  have Z1 : n0 ≤ T1.heap.size := Nat.le_trans Z0 Kq1.1
  have K1 : Keep h0 T1.heap [a1] := (Keep.refl h0 [a1]).trans Kq1 (allS (Or.inl (List.mem_of_getElem? (i := 0) rfl)) all0)
  have N1 : Fr n0 L1 := by rw [l1]; exact Fr.app N0 Nq1
  have F2b := F2.other Wm (Or.inr (slot_ne (Or.inl (hw _ (List.mem_of_getElem? (i := 53) rfl))) (Or.inl (hw _ (List.mem_of_getElem? (i := 50) rfl))) (by decide) (t := (.array (.object "java/lang/Object"))) (t' := .int) (by decide) (by decide)))
  have S1b := S1.wr Wm
  obtain ⟨T2, X2, e2, st2⟩ := getS2 X1 hx hZ hown (host := "") (Or.inl (hw _ (List.mem_of_getElem? (i := 51) rfl))) Via.refl rfl S1b (g := (mkF m 5 #[.val (.ref a1)] [(.ref a1)])) rfl (hb hby d5_5)
  have fc4 := (E1.keep Kq1)
  obtain ⟨T3, h3, X3, e3, W3, st3⟩ := putF X2 hx hZ hown (host := "") (Or.inl (hw _ (List.mem_of_getElem? (i := 52) rfl))) Via.refl e2 F2b fc4 (Or.inl (hw _ (List.mem_of_getElem? (i := 53) rfl))) (hw _ (List.mem_of_getElem? (i := 31) rfl)) (ty := (.array (.object "java/lang/Object"))) (by decide) rfl rfl (g := (mkF m 8 #[.val (.ref a1)] [(.ref d1), (.ref a1)])) rfl rfl (hb hby d5_8)
  have Fw3 := F2b.same W3
  have K3 : Keep h0 h3 [a1] := K1.wr W3 (Or.inl (List.mem_of_getElem? (i := 0) rfl))
  have N3 := Fr.snoc X3 N1 g_a1
  have Z3 : n0 ≤ h3.size := Nat.le_trans Z1 (Keep.of_wr W3).1
  obtain ⟨fs, hr, hrun, hended, hW, hsame⟩ := X3.leave (v := none) (fun _ => rfl)
  refine ⟨_, _, pre0 _ ?_, hrun, hended, _, _, rfl, ?_, ⟨_, rfl⟩, hW, hsame.mono (by decide) (by decide)⟩
  · show Steps p.tables e below (s₁.setTop (mkF m 0 #[.val (.ref a1)] [])) _
    refine XS.aloadN X0.here hx rfl (hb hby d5_0) rfl rfl ?_
    show Steps p.tables e below (s₁.setTop (mkF m 1 #[.val (.ref a1)] [(.ref a1)])) _
    refine st1.trans ?_
    show Steps p.tables e below (T1.setTop (mkF m 4 #[.val (.ref a1)] [])) _
    refine XS.aloadN X1.here hx rfl (hb hby d5_4) rfl rfl ?_
    show Steps p.tables e below (T1.setTop (mkF m 5 #[.val (.ref a1)] [(.ref a1)])) _
    refine st2 _ ?_
    show Steps p.tables e below (T2.setTop (mkF m 8 #[.val (.ref a1)] [(.ref d1), (.ref a1)])) _
    refine st3 _ ?_
    show Steps p.tables e below (T3.setTop (mkF m 11 #[.val (.ref a1)] [])) _
    exact X3.returnOut hx Bd.returns (hb hby d5_11) hr
  · show Qown_al Z a1 d1 h0 n0 _ T3.heap _
    rw [e3]
    exact ⟨rfl, N3, K3⟩
theorem d1_0 : decode prog_13_method_1_code 0 = .ok (.aload_n 0, 1) := by decide +kernel
theorem d1_1 : decode prog_13_method_1_code 1 = .ok (.invokespecial 1, 3) := by decide +kernel
theorem d1_4 : decode prog_13_method_1_code 4 = .ok (.aload_n 0, 1) := by decide +kernel
theorem d1_5 : decode prog_13_method_1_code 5 = .ok (.new 7, 3) := by decide +kernel
theorem d1_8 : decode prog_13_method_1_code 8 = .ok (.dup, 1) := by decide +kernel
theorem d1_9 : decode prog_13_method_1_code 9 = .ok (.invokespecial 9, 3) := by decide +kernel
theorem d1_12 : decode prog_13_method_1_code 12 = .ok (.putfield 10, 3) := by decide +kernel
theorem d1_15 : decode prog_13_method_1_code 15 = .ok (.aload_n 0, 1) := by decide +kernel
theorem d1_16 : decode prog_13_method_1_code 16 = .ok (.new 7, 3) := by decide +kernel
theorem d1_19 : decode prog_13_method_1_code 19 = .ok (.dup, 1) := by decide +kernel
theorem d1_20 : decode prog_13_method_1_code 20 = .ok (.invokespecial 9, 3) := by decide +kernel
theorem d1_23 : decode prog_13_method_1_code 23 = .ok (.putfield 16, 3) := by decide +kernel
theorem d1_26 : decode prog_13_method_1_code 26 = .ok (.aload_n 0, 1) := by decide +kernel
theorem d1_27 : decode prog_13_method_1_code 27 = .ok (.new 19, 3) := by decide +kernel
theorem d1_30 : decode prog_13_method_1_code 30 = .ok (.dup, 1) := by decide +kernel
theorem d1_31 : decode prog_13_method_1_code 31 = .ok (.invokespecial 21, 3) := by decide +kernel
theorem d1_34 : decode prog_13_method_1_code 34 = .ok (.putfield 22, 3) := by decide +kernel
theorem d1_37 : decode prog_13_method_1_code 37 = .ok (.aload_n 0, 1) := by decide +kernel
theorem d1_38 : decode prog_13_method_1_code 38 = .ok (.iconst (-1), 1) := by decide +kernel
theorem d1_39 : decode prog_13_method_1_code 39 = .ok (.putfield 26, 3) := by decide +kernel
theorem d1_42 : decode prog_13_method_1_code 42 = .ok (.aload_n 0, 1) := by decide +kernel
theorem d1_43 : decode prog_13_method_1_code 43 = .ok (.iload_n 1, 1) := by decide +kernel
theorem d1_44 : decode prog_13_method_1_code 44 = .ok (.putfield 30, 3) := by decide +kernel
theorem d1_47 : decode prog_13_method_1_code 47 = .ok (.return_, 1) := by decide +kernel
theorem pn_com_example_orbweaver_orbweaver_engine_Buffers : plainName "com/example/orbweaver/orbweaver/engine/Buffers" = true := by first | (simp [plainName, overriddenIn]; done) | decide +kernel
theorem ef_own_init (m : MethodId) (x0 : Addr) (x1 : Int32) : entryFrame m #[(.ref x0), (.int x1)] 2 = mkF m 0 #[.val (.ref x0), .val (.int x1)] [] := by first | (simp [entryFrame, mkF, argsToLocals, Value.category]; done) | rfl
def Qown_init (Z : State) (a1 : Addr) (p1 : Int32) (d1 : Addr) (h0 : Heap) (n0 : Nat) (v : Option Value) (h : Heap) (L : List Loc) : Prop := v = none ∧ Fr n0 L ∧ Keep h0 h [a1] ∧ Fld Z h a1 "com/example/orbweaver/orbweaver/engine/Buffers" "first" "I" (.int (-1 : Int32)) ∧ Fld Z h a1 "com/example/orbweaver/orbweaver/engine/Buffers" "bound" "I" (.int p1)
set_option maxRecDepth 65536 in
set_option maxHeartbeats 40000000 in
theorem own_init (l : Launch) (Z : State) (a0 : Array Value) (hw : ∀ d ∈ tables_1, d.before a0 Z = true) (ws : List Jvm.Cond) (a1 : Addr) (p1 : Int32) (d1 : Addr) (h0 : Heap) (n0 : Nat) (Z0 : n0 ≤ h0.size) (F0 : Fld Z h0 a1 "com/example/orbweaver/orbweaver/engine/Buffers" "buffers" "Ljava/util/Map;" .null) (F1 : Fld Z h0 a1 "com/example/orbweaver/orbweaver/engine/Buffers" "numbers" "Ljava/util/Map;" .null) (F2 : Fld Z h0 a1 "com/example/orbweaver/orbweaver/engine/Buffers" "messages" "Ljava/util/List;" .null) (F3 : Fld Z h0 a1 "com/example/orbweaver/orbweaver/engine/Buffers" "first" "I" (.int (0 : Int32))) (F4 : Fld Z h0 a1 "com/example/orbweaver/orbweaver/engine/Buffers" "bound" "I" (.int (0 : Int32))) (E1 : Exa Z h0 a1 "com/example/orbweaver/orbweaver/engine/Buffers") (g_a1 : n0 ≤ a1) (S1 : Sta Z h0 "java/util/ArrayList" "DEFAULTCAPACITY_EMPTY_ELEMENTDATA" "[Ljava/lang/Object;" (.ref d1)) :
    MetFree l (⟨"com/example/orbweaver/orbweaver/engine/Buffers", "<init>", "(I)V"⟩ : MethodName) (head1 (Jvm.Cond.code (⟨"com/example/orbweaver/orbweaver/engine/Buffers", "<init>", "(I)V"⟩ : MethodName) prog_13_method_1_code 2 none :: ws) ({ frames := 4, cells := 3, slots := 19, locals := 50 } : Room)) (fun a U => a = #[(.ref a1), (.int p1)] ∧ Z.Warmed39 U.vm ∧ U.heap = h0) (fun _ _ _ _ _ => True) (fun _ U o U' => ∃ v L, o = .returned v ∧ Qown_init Z a1 p1 d1 h0 n0 v U'.heap L ∧ FrameEnd U o U' L ({ frames := 4, cells := 3, slots := 19, locals := 50 } : Room).cells ({ frames := 4, cells := 3, slots := 19, locals := 50 } : Room).slots) := by
  refine MetFree.of_bodySF (plainFor_of_name pn_com_example_orbweaver_orbweaver_engine_Buffers) hisR ?_
  intro p e s m args below meth c s₁ Bd hml0 hP hK
  obtain ⟨rfl, hZ, hh⟩ := hP
  have hx := Bd.exec
  have hby := Bd.bytes
  have hml : c.maxLocals = 2 := hml0
  have hown : s.vm.findClass "com/example/orbweaver/orbweaver/engine/Buffers" = some m.cls := findClass_of_methodNamed Bd.named
  have hnm := (name_of_methodNamed Bd.named Bd.method).1
  have X0 : Stand p l e ({ frames := 4, cells := 3, slots := 19, locals := 50 } : Room) s m #[(.ref a1), (.int p1)] below meth c s₁ [] 0 0 := Stand.of_body Bd
  have e0 : s₁.heap = h0 := by rw [← hh, Bd.state]; rfl
  have N0 := Fr.nil n0
  have pre0 : ∀ t, Steps p.tables e below (s₁.setTop (mkF m 0 #[.val (.ref a1), .val (.int p1)] [])) t → Steps p.tables e below (s₁.setTop (entryFrame m #[(.ref a1), (.int p1)] 2)) t := fun t k => castTop (ef_own_init m (a1) (p1)) k
  obtain ⟨T1, X1, e1, st1⟩ := initO X0 hx hZ hown (hw _ (List.mem_of_getElem? (i := 7) rfl)) (hw _ (List.mem_of_getElem? (i := 8) rfl)) (hw _ (List.mem_of_getElem? (i := 9) rfl)) e0 (g := (mkF m 1 #[.val (.ref a1), .val (.int p1)] [(.ref a1)])) rfl (by rw [hml]; rfl) rfl (hb hby d1_1) (by decide) (W := 0) (by show 2 * 0 + _ ≤ _; exact Nat.le_of_eq rfl) (by decide)
  obtain ⟨T2, h2, X2, e2, E2, A2, D2, -, st2⟩ := newO X1 hx hZ hown (hw _ (List.mem_of_getElem? (i := 10) rfl)) (hw _ (List.mem_of_getElem? (i := 11) rfl)) (hw _ (List.mem_of_getElem? (i := 12) rfl)) e1 (g := (mkF m 5 #[.val (.ref a1), .val (.int p1)] [(.ref a1)])) rfl (hb hby d1_5) (by decide) (by decide)
  obtain ⟨b2, g2⟩ : ∃ z, z = h0.size := ⟨_, rfl⟩
  rw [← g2] at A2 D2 st2
  have g_b2 : n0 ≤ b2 := Nat.le_trans Z0 (Nat.le_of_eq g2.symm)
  have sz_b2 : h0.size ≤ b2 := Nat.le_trans (Keep.refl h0 [a1]).1 (Nat.le_of_eq g2.symm)
  have Z2 : n0 ≤ h2.size := Nat.le_trans Z0 E2.1
  have K2 : Keep h0 h2 [a1] := (Keep.refl h0 [a1]).ext E2
  have F_loadFactor_b2 : Fld Z h2 b2 "java/util/HashMap" "loadFactor" "F" (.float 0) := D2 (Or.inr (hw _ (List.mem_of_getElem? (i := 25) rfl))) (ty := .float) (by decide)
  obtain ⟨_, _, ⟨T3, L3, k3, n3⟩, -, X3, ⟨Lc3, hQ3, l3, y3, z3⟩, st3⟩ := X2.specialBack hx (y := (⟨"java/util/HashMap", "<init>", "()V"⟩ : MethodName)) rfl hown (mvT hZ (hw _ (List.mem_of_getElem? (i := 13) rfl))) (mvT hZ (hw _ (List.mem_of_getElem? (i := 14) rfl))) (mvT hZ (hw _ (List.mem_of_getElem? (i := 15) rfl))) (by decide) (backOf (W := 2) (own_hm l Z a0 hw [] b2  h2 n0 Z2 F_loadFactor_b2 A2 g_b2) hZ (hw _ (List.mem_of_getElem? (i := 15) rfl)) (hw _ (List.mem_of_getElem? (i := 12) rfl)) (by decide) (by decide)) (g := (mkF m 9 #[.val (.ref a1), .val (.int p1)] [(.ref b2), (.ref b2), (.ref a1)])) rfl (by rw [hml]; rfl) (Steps.refl _) (a := b2) (argsL := []) (rest := [(.ref b2), (.ref a1)]) (lenOf pd___V rfl) rfl (by show 2 * 0 + _ ≤ _; exact Nat.le_of_eq rfl) (hb hby d1_9) (fun _ _ => ⟨rfl, e2, (by decide : 1 + 0 ≤ _), (by decide : 8 + 0 ≤ _)⟩)
  dsimp only [Pt.U, Pt.locs, Pt.cells, Pt.slots] at X3 l3 y3 z3 st3 hQ3
  replace X3 := X3.more (Nat.le_of_eq (show k3 = 1 from y3)) (Nat.le_of_eq (show n3 = 8 from z3))
  obtain ⟨rfl, Nq3, Kq3⟩ := hQ3
  have Z3 : n0 ≤ T3.heap.size := Nat.le_trans Z2 Kq3.1
  have K3 : Keep h0 T3.heap [a1] := K2.trans Kq3 (allS (Or.inr sz_b2) all0)
  have N3 : Fr n0 L3 := by rw [l3]; exact Fr.app N0 Nq3
  have ne_a1_b2 : a1 ≠ b2 := Nat.ne_of_lt (Nat.lt_of_lt_of_le E1.lt (Nat.le_of_eq g2.symm))
  have fc5 := ((F0.ext E2).keep Kq3 (ninS ne_a1_b2 nin0))
  have fc6 := ((E1.ext E2).keep Kq3)
  obtain ⟨T4, h4, X4, e4, W4, st4⟩ := putF X3 hx hZ hown (host := "") (Or.inl (hw _ (List.mem_of_getElem? (i := 26) rfl))) Via.refl rfl fc5 fc6 (Or.inr ⟨(hw _ (List.mem_of_getElem? (i := 27) rfl)), rfl, hnm⟩) (hw _ (List.mem_of_getElem? (i := 2) rfl)) (ty := (.object "java/util/Map")) (by decide) rfl rfl (g := (mkF m 12 #[.val (.ref a1), .val (.int p1)] [(.ref b2), (.ref a1)])) rfl rfl (hb hby d1_12)
  have Fw4 := fc5.same W4
  have K4 : Keep h0 h4 [a1] := K3.wr W4 (Or.inl (List.mem_of_getElem? (i := 0) rfl))
  have N4 := Fr.snoc X4 N3 g_a1
  have Z4 : n0 ≤ h4.size := Nat.le_trans Z3 (Keep.of_wr W4).1
  obtain ⟨T7, h7, X7, e7, E7, A7, D7, -, st7⟩ := newO X4 hx hZ hown (hw _ (List.mem_of_getElem? (i := 10) rfl)) (hw _ (List.mem_of_getElem? (i := 11) rfl)) (hw _ (List.mem_of_getElem? (i := 12) rfl)) e4 (g := (mkF m 16 #[.val (.ref a1), .val (.int p1)] [(.ref a1)])) rfl (hb hby d1_16) (by decide) (by decide)
  obtain ⟨b7, g7⟩ : ∃ z, z = h4.size := ⟨_, rfl⟩
  rw [← g7] at A7 D7 st7
  have g_b7 : n0 ≤ b7 := Nat.le_trans Z4 (Nat.le_of_eq g7.symm)
  have sz_b7 : h0.size ≤ b7 := Nat.le_trans K4.1 (Nat.le_of_eq g7.symm)
  have Z7 : n0 ≤ h7.size := Nat.le_trans Z4 E7.1
  have K7 : Keep h0 h7 [a1] := K4.ext E7
  have F_loadFactor_b7 : Fld Z h7 b7 "java/util/HashMap" "loadFactor" "F" (.float 0) := D7 (Or.inr (hw _ (List.mem_of_getElem? (i := 25) rfl))) (ty := .float) (by decide)
  obtain ⟨_, _, ⟨T8, L8, k8, n8⟩, -, X8, ⟨Lc8, hQ8, l8, y8, z8⟩, st8⟩ := X7.specialBack hx (y := (⟨"java/util/HashMap", "<init>", "()V"⟩ : MethodName)) rfl hown (mvT hZ (hw _ (List.mem_of_getElem? (i := 13) rfl))) (mvT hZ (hw _ (List.mem_of_getElem? (i := 14) rfl))) (mvT hZ (hw _ (List.mem_of_getElem? (i := 15) rfl))) (by decide) (backOf (W := 2) (own_hm l Z a0 hw [] b7  h7 n0 Z7 F_loadFactor_b7 A7 g_b7) hZ (hw _ (List.mem_of_getElem? (i := 15) rfl)) (hw _ (List.mem_of_getElem? (i := 12) rfl)) (by decide) (by decide)) (g := (mkF m 20 #[.val (.ref a1), .val (.int p1)] [(.ref b7), (.ref b7), (.ref a1)])) rfl (by rw [hml]; rfl) (Steps.refl _) (a := b7) (argsL := []) (rest := [(.ref b7), (.ref a1)]) (lenOf pd___V rfl) rfl (by show 2 * 0 + _ ≤ _; exact Nat.le_of_eq rfl) (hb hby d1_20) (fun _ _ => ⟨rfl, e7, (by decide : 2 + 0 ≤ _), (by decide : 16 + 0 ≤ _)⟩)
  dsimp only [Pt.U, Pt.locs, Pt.cells, Pt.slots] at X8 l8 y8 z8 st8 hQ8
  replace X8 := X8.more (Nat.le_of_eq (show k8 = 2 from y8)) (Nat.le_of_eq (show n8 = 16 from z8))
  obtain ⟨rfl, Nq8, Kq8⟩ := hQ8
  have Z8 : n0 ≤ T8.heap.size := Nat.le_trans Z7 Kq8.1
  have K8 : Keep h0 T8.heap [a1] := K7.trans Kq8 (allS (Or.inr sz_b7) all0)
  have N8 : Fr n0 L8 := by rw [l8]; exact Fr.app N4 Nq8
  have fc10 := (fc6.wr W4)
  have ne_a1_b7 : a1 ≠ b7 := Nat.ne_of_lt (Nat.lt_of_lt_of_le fc10.lt (Nat.le_of_eq g7.symm))
  have fc11 := (((((F1.ext E2).keep Kq3 (ninS ne_a1_b2 nin0)).other W4 (Or.inr (slot_ne (Or.inr (hw _ (List.mem_of_getElem? (i := 29) rfl))) (Or.inr (hw _ (List.mem_of_getElem? (i := 27) rfl))) (by decide) (t := (.object "java/util/Map")) (t' := (.object "java/util/Map")) (by decide) (by decide)))).ext E7).keep Kq8 (ninS ne_a1_b7 nin0))
  have fc12 := ((fc10.ext E7).keep Kq8)
  obtain ⟨T9, h9, X9, e9, W9, st9⟩ := putF X8 hx hZ hown (host := "") (Or.inl (hw _ (List.mem_of_getElem? (i := 28) rfl))) Via.refl rfl fc11 fc12 (Or.inr ⟨(hw _ (List.mem_of_getElem? (i := 29) rfl)), rfl, hnm⟩) (hw _ (List.mem_of_getElem? (i := 2) rfl)) (ty := (.object "java/util/Map")) (by decide) rfl rfl (g := (mkF m 23 #[.val (.ref a1), .val (.int p1)] [(.ref b7), (.ref a1)])) rfl rfl (hb hby d1_23)
  have Fw9 := fc11.same W9
  have K9 : Keep h0 h9 [a1] := K8.wr W9 (Or.inl (List.mem_of_getElem? (i := 0) rfl))
  have N9 := Fr.snoc X9 N8 g_a1
  have Z9 : n0 ≤ h9.size := Nat.le_trans Z8 (Keep.of_wr W9).1
  obtain ⟨T13, h13, X13, e13, E13, A13, D13, -, st13⟩ := newO X9 hx hZ hown (hw _ (List.mem_of_getElem? (i := 30) rfl)) (hw _ (List.mem_of_getElem? (i := 31) rfl)) (hw _ (List.mem_of_getElem? (i := 32) rfl)) e9 (g := (mkF m 27 #[.val (.ref a1), .val (.int p1)] [(.ref a1)])) rfl (hb hby d1_27) (by decide) (by decide)
  obtain ⟨b13, g13⟩ : ∃ z, z = h9.size := ⟨_, rfl⟩
  rw [← g13] at A13 D13 st13
  have g_b13 : n0 ≤ b13 := Nat.le_trans Z9 (Nat.le_of_eq g13.symm)
  have sz_b13 : h0.size ≤ b13 := Nat.le_trans K9.1 (Nat.le_of_eq g13.symm)
  have Z13 : n0 ≤ h13.size := Nat.le_trans Z9 E13.1
  have K13 : Keep h0 h13 [a1] := K9.ext E13
  have F_modCount_b13 : Fld Z h13 b13 "java/util/AbstractList" "modCount" "I" (.int (0 : Int32)) := D13 (Or.inl (hw _ (List.mem_of_getElem? (i := 50) rfl))) (ty := .int) (by decide)
  have F_elementData_b13 : Fld Z h13 b13 "java/util/ArrayList" "elementData" "[Ljava/lang/Object;" .null := D13 (Or.inl (hw _ (List.mem_of_getElem? (i := 53) rfl))) (ty := (.array (.object "java/lang/Object"))) (by decide)
  have S1c := own_sk1 S1 E1 K13
  obtain ⟨_, _, ⟨T14, L14, k14, n14⟩, -, X14, ⟨Lc14, hQ14, l14, y14, z14⟩, st14⟩ := X13.specialBack hx (y := (⟨"java/util/ArrayList", "<init>", "()V"⟩ : MethodName)) rfl hown (mvT hZ (hw _ (List.mem_of_getElem? (i := 33) rfl))) (mvT hZ (hw _ (List.mem_of_getElem? (i := 34) rfl))) (mvT hZ (hw _ (List.mem_of_getElem? (i := 35) rfl))) (by decide) (backOf (W := 2) (own_al l Z a0 hw [] b13 d1 h13 n0 Z13 F_modCount_b13 F_elementData_b13 A13 g_b13 S1c) hZ (hw _ (List.mem_of_getElem? (i := 35) rfl)) (hw _ (List.mem_of_getElem? (i := 32) rfl)) (by decide) (by decide)) (g := (mkF m 31 #[.val (.ref a1), .val (.int p1)] [(.ref b13), (.ref b13), (.ref a1)])) rfl (by rw [hml]; rfl) (Steps.refl _) (a := b13) (argsL := []) (rest := [(.ref b13), (.ref a1)]) (lenOf pd___V rfl) rfl (by show 2 * 0 + _ ≤ _; exact Nat.le_of_eq rfl) (hb hby d1_31) (fun _ _ => ⟨rfl, e13, (by decide : 3 + 0 ≤ _), (by decide : 19 + 0 ≤ _)⟩)
  dsimp only [Pt.U, Pt.locs, Pt.cells, Pt.slots] at X14 l14 y14 z14 st14 hQ14
  replace X14 := X14.more (Nat.le_of_eq (show k14 = 3 from y14)) (Nat.le_of_eq (show n14 = 19 from z14))
  obtain ⟨rfl, Nq14, Kq14⟩ := hQ14
  have Z14 : n0 ≤ T14.heap.size := Nat.le_trans Z13 Kq14.1
  have K14 : Keep h0 T14.heap [a1] := K13.trans Kq14 (allS (Or.inr sz_b13) all0)
  have N14 : Fr n0 L14 := by rw [l14]; exact Fr.app N9 Nq14
  have fc16 := (fc12.wr W9)
  have ne_a1_b13 : a1 ≠ b13 := Nat.ne_of_lt (Nat.lt_of_lt_of_le fc16.lt (Nat.le_of_eq g13.symm))
  have fc17 := ((((((((F2.ext E2).keep Kq3 (ninS ne_a1_b2 nin0)).other W4 (Or.inr (slot_ne (Or.inr (hw _ (List.mem_of_getElem? (i := 55) rfl))) (Or.inr (hw _ (List.mem_of_getElem? (i := 27) rfl))) (by decide) (t := (.object "java/util/List")) (t' := (.object "java/util/Map")) (by decide) (by decide)))).ext E7).keep Kq8 (ninS ne_a1_b7 nin0)).other W9 (Or.inr (slot_ne (Or.inr (hw _ (List.mem_of_getElem? (i := 55) rfl))) (Or.inr (hw _ (List.mem_of_getElem? (i := 29) rfl))) (by decide) (t := (.object "java/util/List")) (t' := (.object "java/util/Map")) (by decide) (by decide)))).ext E13).keep Kq14 (ninS ne_a1_b13 nin0))
  have fc18 := ((fc16.ext E13).keep Kq14)
  obtain ⟨T15, h15, X15, e15, W15, st15⟩ := putF X14 hx hZ hown (host := "") (Or.inl (hw _ (List.mem_of_getElem? (i := 54) rfl))) Via.refl rfl fc17 fc18 (Or.inr ⟨(hw _ (List.mem_of_getElem? (i := 55) rfl)), rfl, hnm⟩) (hw _ (List.mem_of_getElem? (i := 2) rfl)) (ty := (.object "java/util/List")) (by decide) rfl rfl (g := (mkF m 34 #[.val (.ref a1), .val (.int p1)] [(.ref b13), (.ref a1)])) rfl rfl (hb hby d1_34)
  have Fw15 := fc17.same W15
  have K15 : Keep h0 h15 [a1] := K14.wr W15 (Or.inl (List.mem_of_getElem? (i := 0) rfl))
  have N15 := Fr.snoc X15 N14 g_a1
  have Z15 : n0 ≤ h15.size := Nat.le_trans Z14 (Keep.of_wr W15).1
  have fc20 := (((((((((F3.ext E2).keep Kq3 (ninS ne_a1_b2 nin0)).other W4 (Or.inr (slot_ne (Or.inl (hw _ (List.mem_of_getElem? (i := 57) rfl))) (Or.inr (hw _ (List.mem_of_getElem? (i := 27) rfl))) (by decide) (t := .int) (t' := (.object "java/util/Map")) (by decide) (by decide)))).ext E7).keep Kq8 (ninS ne_a1_b7 nin0)).other W9 (Or.inr (slot_ne (Or.inl (hw _ (List.mem_of_getElem? (i := 57) rfl))) (Or.inr (hw _ (List.mem_of_getElem? (i := 29) rfl))) (by decide) (t := .int) (t' := (.object "java/util/Map")) (by decide) (by decide)))).ext E13).keep Kq14 (ninS ne_a1_b13 nin0)).other W15 (Or.inr (slot_ne (Or.inl (hw _ (List.mem_of_getElem? (i := 57) rfl))) (Or.inr (hw _ (List.mem_of_getElem? (i := 55) rfl))) (by decide) (t := .int) (t' := (.object "java/util/List")) (by decide) (by decide))))
  have fc21 := (fc18.wr W15)
  obtain ⟨T19, h19, X19, e19, W19, st19⟩ := putF X15 hx hZ hown (host := "") (Or.inl (hw _ (List.mem_of_getElem? (i := 56) rfl))) Via.refl e15 fc20 fc21 (Or.inl (hw _ (List.mem_of_getElem? (i := 57) rfl))) (hw _ (List.mem_of_getElem? (i := 2) rfl)) (ty := .int) (by decide) rfl rfl (g := (mkF m 39 #[.val (.ref a1), .val (.int p1)] [(.int (-1 : Int32)), (.ref a1)])) rfl rfl (hb hby d1_39)
  have Fw19 := fc20.same W19
  have K19 : Keep h0 h19 [a1] := K15.wr W19 (Or.inl (List.mem_of_getElem? (i := 0) rfl))
  have N19 := Fr.snoc X19 N15 g_a1
  have Z19 : n0 ≤ h19.size := Nat.le_trans Z15 (Keep.of_wr W19).1
  have fc23 := ((((((((((F4.ext E2).keep Kq3 (ninS ne_a1_b2 nin0)).other W4 (Or.inr (slot_ne (Or.inr (hw _ (List.mem_of_getElem? (i := 59) rfl))) (Or.inr (hw _ (List.mem_of_getElem? (i := 27) rfl))) (by decide) (t := .int) (t' := (.object "java/util/Map")) (by decide) (by decide)))).ext E7).keep Kq8 (ninS ne_a1_b7 nin0)).other W9 (Or.inr (slot_ne (Or.inr (hw _ (List.mem_of_getElem? (i := 59) rfl))) (Or.inr (hw _ (List.mem_of_getElem? (i := 29) rfl))) (by decide) (t := .int) (t' := (.object "java/util/Map")) (by decide) (by decide)))).ext E13).keep Kq14 (ninS ne_a1_b13 nin0)).other W15 (Or.inr (slot_ne (Or.inr (hw _ (List.mem_of_getElem? (i := 59) rfl))) (Or.inr (hw _ (List.mem_of_getElem? (i := 55) rfl))) (by decide) (t := .int) (t' := (.object "java/util/List")) (by decide) (by decide)))).other W19 (Or.inr (slot_ne (Or.inr (hw _ (List.mem_of_getElem? (i := 59) rfl))) (Or.inl (hw _ (List.mem_of_getElem? (i := 57) rfl))) (by decide) (t := .int) (t' := .int) (by decide) (by decide))))
  have fc24 := (fc21.wr W19)
  obtain ⟨T22, h22, X22, e22, W22, st22⟩ := putF X19 hx hZ hown (host := "") (Or.inl (hw _ (List.mem_of_getElem? (i := 58) rfl))) Via.refl e19 fc23 fc24 (Or.inr ⟨(hw _ (List.mem_of_getElem? (i := 59) rfl)), rfl, hnm⟩) (hw _ (List.mem_of_getElem? (i := 2) rfl)) (ty := .int) (by decide) rfl rfl (g := (mkF m 44 #[.val (.ref a1), .val (.int p1)] [(.int p1), (.ref a1)])) rfl rfl (hb hby d1_44)
  have Fw22 := fc23.same W22
  have K22 : Keep h0 h22 [a1] := K19.wr W22 (Or.inl (List.mem_of_getElem? (i := 0) rfl))
  have N22 := Fr.snoc X22 N19 g_a1
  have Z22 : n0 ≤ h22.size := Nat.le_trans Z19 (Keep.of_wr W22).1
  have fc25 := (Fw19.other W22 (Or.inr (slot_ne (Or.inl (hw _ (List.mem_of_getElem? (i := 57) rfl))) (Or.inr (hw _ (List.mem_of_getElem? (i := 59) rfl))) (by decide) (t := .int) (t' := .int) (by decide) (by decide))))
  obtain ⟨fs, hr, hrun, hended, hW, hsame⟩ := X22.leave (v := none) (fun _ => rfl)
  refine ⟨_, _, pre0 _ ?_, hrun, hended, _, _, rfl, ?_, ⟨_, rfl⟩, hW, hsame.mono (by decide) (by decide)⟩
  · show Steps p.tables e below (s₁.setTop (mkF m 0 #[.val (.ref a1), .val (.int p1)] [])) _
    refine XS.aloadN X0.here hx rfl (hb hby d1_0) rfl rfl ?_
    show Steps p.tables e below (s₁.setTop (mkF m 1 #[.val (.ref a1), .val (.int p1)] [(.ref a1)])) _
    refine st1 _ ?_
    show Steps p.tables e below (T1.setTop (mkF m 4 #[.val (.ref a1), .val (.int p1)] [])) _
    refine XS.aloadN X1.here hx rfl (hb hby d1_4) rfl rfl ?_
    show Steps p.tables e below (T1.setTop (mkF m 5 #[.val (.ref a1), .val (.int p1)] [(.ref a1)])) _
    refine st2 _ ?_
    show Steps p.tables e below (T2.setTop (mkF m 8 #[.val (.ref a1), .val (.int p1)] [(.ref b2), (.ref a1)])) _
    refine XS.dup X2.here hx rfl (hb hby d1_8) rfl rfl ?_
    show Steps p.tables e below (T2.setTop (mkF m 9 #[.val (.ref a1), .val (.int p1)] [(.ref b2), (.ref b2), (.ref a1)])) _
    refine st3.trans ?_
    show Steps p.tables e below (T3.setTop (mkF m 12 #[.val (.ref a1), .val (.int p1)] [(.ref b2), (.ref a1)])) _
    refine st4 _ ?_
    show Steps p.tables e below (T4.setTop (mkF m 15 #[.val (.ref a1), .val (.int p1)] [])) _
    refine XS.aloadN X4.here hx rfl (hb hby d1_15) rfl rfl ?_
    show Steps p.tables e below (T4.setTop (mkF m 16 #[.val (.ref a1), .val (.int p1)] [(.ref a1)])) _
    refine st7 _ ?_
    show Steps p.tables e below (T7.setTop (mkF m 19 #[.val (.ref a1), .val (.int p1)] [(.ref b7), (.ref a1)])) _
    refine XS.dup X7.here hx rfl (hb hby d1_19) rfl rfl ?_
    show Steps p.tables e below (T7.setTop (mkF m 20 #[.val (.ref a1), .val (.int p1)] [(.ref b7), (.ref b7), (.ref a1)])) _
    refine st8.trans ?_
    show Steps p.tables e below (T8.setTop (mkF m 23 #[.val (.ref a1), .val (.int p1)] [(.ref b7), (.ref a1)])) _
    refine st9 _ ?_
    show Steps p.tables e below (T9.setTop (mkF m 26 #[.val (.ref a1), .val (.int p1)] [])) _
    refine XS.aloadN X9.here hx rfl (hb hby d1_26) rfl rfl ?_
    show Steps p.tables e below (T9.setTop (mkF m 27 #[.val (.ref a1), .val (.int p1)] [(.ref a1)])) _
    refine st13 _ ?_
    show Steps p.tables e below (T13.setTop (mkF m 30 #[.val (.ref a1), .val (.int p1)] [(.ref b13), (.ref a1)])) _
    refine XS.dup X13.here hx rfl (hb hby d1_30) rfl rfl ?_
    show Steps p.tables e below (T13.setTop (mkF m 31 #[.val (.ref a1), .val (.int p1)] [(.ref b13), (.ref b13), (.ref a1)])) _
    refine st14.trans ?_
    show Steps p.tables e below (T14.setTop (mkF m 34 #[.val (.ref a1), .val (.int p1)] [(.ref b13), (.ref a1)])) _
    refine st15 _ ?_
    show Steps p.tables e below (T15.setTop (mkF m 37 #[.val (.ref a1), .val (.int p1)] [])) _
    refine XS.aloadN X15.here hx rfl (hb hby d1_37) rfl rfl ?_
    show Steps p.tables e below (T15.setTop (mkF m 38 #[.val (.ref a1), .val (.int p1)] [(.ref a1)])) _
    refine XS.iconst X15.here hx rfl (hb hby d1_38) ?_
    show Steps p.tables e below (T15.setTop (mkF m 39 #[.val (.ref a1), .val (.int p1)] [(.int (-1 : Int32)), (.ref a1)])) _
    refine st19 _ ?_
    show Steps p.tables e below (T19.setTop (mkF m 42 #[.val (.ref a1), .val (.int p1)] [])) _
    refine XS.aloadN X19.here hx rfl (hb hby d1_42) rfl rfl ?_
    show Steps p.tables e below (T19.setTop (mkF m 43 #[.val (.ref a1), .val (.int p1)] [(.ref a1)])) _
    refine XS.iloadN X19.here hx rfl (hb hby d1_43) rfl ?_
    show Steps p.tables e below (T19.setTop (mkF m 44 #[.val (.ref a1), .val (.int p1)] [(.int p1), (.ref a1)])) _
    refine st22 _ ?_
    show Steps p.tables e below (T22.setTop (mkF m 47 #[.val (.ref a1), .val (.int p1)] [])) _
    exact X22.returnOut hx Bd.returns (hb hby d1_47) hr
  · show Qown_init Z a1 p1 d1 h0 n0 _ T22.heap _
    rw [e22]
    exact ⟨rfl, N22, K22, fc25, Fw22⟩
theorem d8_0 : decode prog_13_method_6_code 0 = .ok (.aload_n 0, 1) := by decide +kernel
theorem d8_1 : decode prog_13_method_6_code 1 = .ok (.iload_n 1, 1) := by decide +kernel
theorem d8_2 : decode prog_13_method_6_code 2 = .ok (.putfield 26, 3) := by decide +kernel
theorem d8_5 : decode prog_13_method_6_code 5 = .ok (.return_, 1) := by decide +kernel
theorem ef_own_place (m : MethodId) (x0 : Addr) (x1 : Int32) : entryFrame m #[(.ref x0), (.int x1)] 2 = mkF m 0 #[.val (.ref x0), .val (.int x1)] [] := by first | (simp [entryFrame, mkF, argsToLocals, Value.category]; done) | rfl
def Qown_place (Z : State) (a1 : Addr) (p1 : Int32) (q1 : Int32) (b1 : Int32) (h0 : Heap) (n0 : Nat) (v : Option Value) (h : Heap) (L : List Loc) : Prop := v = none ∧ Fr n0 L ∧ Keep h0 h [a1] ∧ Fld Z h a1 "com/example/orbweaver/orbweaver/engine/Buffers" "first" "I" (.int p1) ∧ Fld Z h a1 "com/example/orbweaver/orbweaver/engine/Buffers" "bound" "I" (.int b1)
set_option maxRecDepth 65536 in
set_option maxHeartbeats 40000000 in
theorem own_place (l : Launch) (Z : State) (a0 : Array Value) (hw : ∀ d ∈ tables_1, d.before a0 Z = true) (ws : List Jvm.Cond) (a1 : Addr) (p1 : Int32) (q1 : Int32) (b1 : Int32) (h0 : Heap) (n0 : Nat) (Z0 : n0 ≤ h0.size) (F1 : Fld Z h0 a1 "com/example/orbweaver/orbweaver/engine/Buffers" "first" "I" (.int q1)) (F2 : Fld Z h0 a1 "com/example/orbweaver/orbweaver/engine/Buffers" "bound" "I" (.int b1)) (E1 : Exa Z h0 a1 "com/example/orbweaver/orbweaver/engine/Buffers") (g_a1 : n0 ≤ a1) :
    MetFree l (⟨"com/example/orbweaver/orbweaver/engine/Buffers", "place", "(I)V"⟩ : MethodName) (head1 (Jvm.Cond.code (⟨"com/example/orbweaver/orbweaver/engine/Buffers", "place", "(I)V"⟩ : MethodName) prog_13_method_6_code 2 none :: ws) ({ frames := 0, cells := 0, slots := 0, locals := 0 } : Room)) (fun a U => a = #[(.ref a1), (.int p1)] ∧ Z.Warmed39 U.vm ∧ U.heap = h0) (fun _ _ _ _ _ => True) (fun _ U o U' => ∃ v L, o = .returned v ∧ Qown_place Z a1 p1 q1 b1 h0 n0 v U'.heap L ∧ FrameEnd U o U' L ({ frames := 0, cells := 0, slots := 0, locals := 0 } : Room).cells ({ frames := 0, cells := 0, slots := 0, locals := 0 } : Room).slots) := by
  refine MetFree.of_bodySF (plainFor_of_name pn_com_example_orbweaver_orbweaver_engine_Buffers) hisR ?_
  intro p e s m args below meth c s₁ Bd hml0 hP hK
  obtain ⟨rfl, hZ, hh⟩ := hP
  have hx := Bd.exec
  have hby := Bd.bytes
  have hml : c.maxLocals = 2 := hml0
  have hown : s.vm.findClass "com/example/orbweaver/orbweaver/engine/Buffers" = some m.cls := findClass_of_methodNamed Bd.named
  have hnm := (name_of_methodNamed Bd.named Bd.method).1
  have X0 : Stand p l e ({ frames := 0, cells := 0, slots := 0, locals := 0 } : Room) s m #[(.ref a1), (.int p1)] below meth c s₁ [] 0 0 := Stand.of_body Bd
  have e0 : s₁.heap = h0 := by rw [← hh, Bd.state]; rfl
  have N0 := Fr.nil n0
  have pre0 : ∀ t, Steps p.tables e below (s₁.setTop (mkF m 0 #[.val (.ref a1), .val (.int p1)] [])) t → Steps p.tables e below (s₁.setTop (entryFrame m #[(.ref a1), (.int p1)] 2)) t := fun t k => castTop (ef_own_place m (a1) (p1)) k
  obtain ⟨T1, h1, X1, e1, W1, st1⟩ := putF X0 hx hZ hown (host := "") (Or.inl (hw _ (List.mem_of_getElem? (i := 56) rfl))) Via.refl e0 F1 E1 (Or.inl (hw _ (List.mem_of_getElem? (i := 57) rfl))) (hw _ (List.mem_of_getElem? (i := 2) rfl)) (ty := .int) (by decide) rfl rfl (g := (mkF m 2 #[.val (.ref a1), .val (.int p1)] [(.int p1), (.ref a1)])) rfl rfl (hb hby d8_2)
  have Fw1 := F1.same W1
  have K1 : Keep h0 h1 [a1] := (Keep.refl h0 [a1]).wr W1 (Or.inl (List.mem_of_getElem? (i := 0) rfl))
  have N1 := Fr.snoc X1 N0 g_a1
  have Z1 : n0 ≤ h1.size := Nat.le_trans Z0 (Keep.of_wr W1).1
  have fc2 := (F2.other W1 (Or.inr (slot_ne (Or.inr (hw _ (List.mem_of_getElem? (i := 59) rfl))) (Or.inl (hw _ (List.mem_of_getElem? (i := 57) rfl))) (by decide) (t := .int) (t' := .int) (by decide) (by decide))))
  obtain ⟨fs, hr, hrun, hended, hW, hsame⟩ := X1.leave (v := none) (fun _ => rfl)
  refine ⟨_, _, pre0 _ ?_, hrun, hended, _, _, rfl, ?_, ⟨_, rfl⟩, hW, hsame.mono (by decide) (by decide)⟩
  · show Steps p.tables e below (s₁.setTop (mkF m 0 #[.val (.ref a1), .val (.int p1)] [])) _
    refine XS.aloadN X0.here hx rfl (hb hby d8_0) rfl rfl ?_
    show Steps p.tables e below (s₁.setTop (mkF m 1 #[.val (.ref a1), .val (.int p1)] [(.ref a1)])) _
    refine XS.iloadN X0.here hx rfl (hb hby d8_1) rfl ?_
    show Steps p.tables e below (s₁.setTop (mkF m 2 #[.val (.ref a1), .val (.int p1)] [(.int p1), (.ref a1)])) _
    refine st1 _ ?_
    show Steps p.tables e below (T1.setTop (mkF m 5 #[.val (.ref a1), .val (.int p1)] [])) _
    exact X1.returnOut hx Bd.returns (hb hby d8_5) hr
  · show Qown_place Z a1 p1 q1 b1 h0 n0 _ T1.heap _
    rw [e1]
    exact ⟨rfl, N1, K1, Fw1, fc2⟩
theorem d9_0 : decode prog_13_method_11_code 0 = .ok (.aload_n 0, 1) := by decide +kernel
theorem d9_1 : decode prog_13_method_11_code 1 = .ok (.getfield 26, 3) := by decide +kernel
theorem d9_4 : decode prog_13_method_11_code 4 = .ok (.iload_n 2, 1) := by decide +kernel
theorem d9_5 : decode prog_13_method_11_code 5 = .ok (.aload_n 0, 1) := by decide +kernel
theorem d9_6 : decode prog_13_method_11_code 6 = .ok (.getfield 30, 3) := by decide +kernel
theorem d9_9 : decode prog_13_method_11_code 9 = .ok (.imul, 1) := by decide +kernel
theorem d9_10 : decode prog_13_method_11_code 10 = .ok (.iadd, 1) := by decide +kernel
theorem d9_11 : decode prog_13_method_11_code 11 = .ok (.istore_n 3, 1) := by decide +kernel
theorem d9_12 : decode prog_13_method_11_code 12 = .ok (.aload_n 1, 1) := by decide +kernel
theorem d9_13 : decode prog_13_method_11_code 13 = .ok (.iload_n 3, 1) := by decide +kernel
theorem d9_14 : decode prog_13_method_11_code 14 = .ok (.iconst 1, 1) := by decide +kernel
theorem d9_15 : decode prog_13_method_11_code 15 = .ok (.iadd, 1) := by decide +kernel
theorem d9_16 : decode prog_13_method_11_code 16 = .ok (.aload_n 1, 1) := by decide +kernel
theorem d9_17 : decode prog_13_method_11_code 17 = .ok (.iload_n 3, 1) := by decide +kernel
theorem d9_18 : decode prog_13_method_11_code 18 = .ok (.aload_n 0, 1) := by decide +kernel
theorem d9_19 : decode prog_13_method_11_code 19 = .ok (.getfield 30, 3) := by decide +kernel
theorem d9_22 : decode prog_13_method_11_code 22 = .ok (.iconst 1, 1) := by decide +kernel
theorem d9_23 : decode prog_13_method_11_code 23 = .ok (.isub, 1) := by decide +kernel
theorem d9_24 : decode prog_13_method_11_code 24 = .ok (.invokestatic 86, 3) := by decide +kernel
theorem d9_27 : decode prog_13_method_11_code 27 = .ok (.aload_n 1, 1) := by decide +kernel
theorem d9_28 : decode prog_13_method_11_code 28 = .ok (.iload_n 3, 1) := by decide +kernel
theorem d9_29 : decode prog_13_method_11_code 29 = .ok (.aload_n 0, 1) := by decide +kernel
theorem d9_30 : decode prog_13_method_11_code 30 = .ok (.getfield 30, 3) := by decide +kernel
theorem d9_33 : decode prog_13_method_11_code 33 = .ok (.iadd, 1) := by decide +kernel
theorem d9_34 : decode prog_13_method_11_code 34 = .ok (.iconst 1, 1) := by decide +kernel
theorem d9_35 : decode prog_13_method_11_code 35 = .ok (.isub, 1) := by decide +kernel
theorem d9_36 : decode prog_13_method_11_code 36 = .ok (.iconst 0, 1) := by decide +kernel
theorem d9_37 : decode prog_13_method_11_code 37 = .ok (.iastore, 1) := by decide +kernel
theorem d9_38 : decode prog_13_method_11_code 38 = .ok (.aload_n 1, 1) := by decide +kernel
theorem d9_39 : decode prog_13_method_11_code 39 = .ok (.areturn, 1) := by decide +kernel
theorem ef_own_take (m : MethodId) (x0 : Addr) (x1 : Addr) (x2 : Int32) : entryFrame m #[(.ref x0), (.ref x1), (.int x2)] 4 = mkF m 0 #[.val (.ref x0), .val (.ref x1), .val (.int x2), .unset] [] := by first | (simp [entryFrame, mkF, argsToLocals, Value.category]; done) | rfl
def Qown_take (Z : State) (a1 : Addr) (a2 : Addr) (u : Int32) (f : Int32) (b : Int32) (k : ClassId) (vs : List Value) (h0 : Heap) (n0 : Nat) (v : Option Value) (h : Heap) (L : List Loc) : Prop := v = some (.ref a2) ∧ Fr n0 L ∧ Keep h0 h [a2] ∧ Arv Z h a2 k .int (8 : Int32) (own_tkv vs f u b) (.int (0 : Int32))
set_option maxRecDepth 65536 in
set_option maxHeartbeats 40000000 in
theorem own_take (l : Launch) (Z : State) (a0 : Array Value) (hw : ∀ d ∈ tables_1, d.before a0 Z = true) (ws : List Jvm.Cond) (a1 : Addr) (a2 : Addr) (u : Int32) (f : Int32) (b : Int32) (k : ClassId) (vs : List Value) (h0 : Heap) (n0 : Nat) (Z0 : n0 ≤ h0.size) (F1 : Fld Z h0 a1 "com/example/orbweaver/orbweaver/engine/Buffers" "first" "I" (.int f)) (F2 : Fld Z h0 a1 "com/example/orbweaver/orbweaver/engine/Buffers" "bound" "I" (.int b)) (V1 : Arv Z h0 a2 k .int (8 : Int32) vs (.int (0 : Int32))) (hv : vs.length = 8) (hP : own_P b f u) (g_a2 : n0 ≤ a2) (hne : a1 ≠ a2) :
    MetFree l (⟨"com/example/orbweaver/orbweaver/engine/Buffers", "take", "([II)[I"⟩ : MethodName) (head1 (Jvm.Cond.code (⟨"com/example/orbweaver/orbweaver/engine/Buffers", "take", "([II)[I"⟩ : MethodName) prog_13_method_11_code 4 (some (.array .int)) :: ws) ({ frames := 1, cells := 0, slots := 0, locals := 18 } : Room)) (fun a U => a = #[(.ref a1), (.ref a2), (.int u)] ∧ Z.Warmed39 U.vm ∧ U.heap = h0) (fun _ _ _ _ _ => True) (fun _ U o U' => ∃ v L, o = .returned v ∧ Qown_take Z a1 a2 u f b k vs h0 n0 v U'.heap L ∧ FrameEnd U o U' L ({ frames := 1, cells := 0, slots := 0, locals := 18 } : Room).cells ({ frames := 1, cells := 0, slots := 0, locals := 18 } : Room).slots) := by
  refine MetFree.of_bodySF (plainFor_of_name pn_com_example_orbweaver_orbweaver_engine_Buffers) hisR ?_
  intro p e s m args below meth c s₁ Bd hml0 hP hK
  obtain ⟨rfl, hZ, hh⟩ := hP
  have hx := Bd.exec
  have hby := Bd.bytes
  have hml : c.maxLocals = 4 := hml0
  have hown : s.vm.findClass "com/example/orbweaver/orbweaver/engine/Buffers" = some m.cls := findClass_of_methodNamed Bd.named
  have hnm := (name_of_methodNamed Bd.named Bd.method).1
  have X0 : Stand p l e ({ frames := 1, cells := 0, slots := 0, locals := 18 } : Room) s m #[(.ref a1), (.ref a2), (.int u)] below meth c s₁ [] 0 0 := Stand.of_body Bd
  have e0 : s₁.heap = h0 := by rw [← hh, Bd.state]; rfl
  have N0 := Fr.nil n0
  have pre0 : ∀ t, Steps p.tables e below (s₁.setTop (mkF m 0 #[.val (.ref a1), .val (.ref a2), .val (.int u), .unset] [])) t → Steps p.tables e below (s₁.setTop (entryFrame m #[(.ref a1), (.ref a2), (.int u)] 4)) t := fun t k => castTop (ef_own_take m (a1) (a2) (u)) k
  obtain ⟨q1, q2, q3, q4, q5, q6⟩ := own_in hP
  obtain ⟨T1, X1, e1, st1⟩ := getF X0 hx hZ hown (host := "") (Or.inl (hw _ (List.mem_of_getElem? (i := 56) rfl))) Via.refl e0 F1 (g := (mkF m 1 #[.val (.ref a1), .val (.ref a2), .val (.int u), .unset] [(.ref a1)])) rfl rfl (hb hby d9_1)
  obtain ⟨T2, X2, e2, st2⟩ := getF X1 hx hZ hown (host := "") (Or.inl (hw _ (List.mem_of_getElem? (i := 58) rfl))) Via.refl e1 F2 (g := (mkF m 6 #[.val (.ref a1), .val (.ref a2), .val (.int u), .unset] [(.ref a1), (.int u), (.int f)])) rfl rfl (hb hby d9_6)
  obtain ⟨T3, X3, e3, st3⟩ := getF X2 hx hZ hown (host := "") (Or.inl (hw _ (List.mem_of_getElem? (i := 58) rfl))) Via.refl e2 F2 (g := (mkF m 19 #[.val (.ref a1), .val (.ref a2), .val (.int u), .val (.int (f + (u * b)))] [(.ref a1), (.int (f + (u * b))), (.ref a2), (.int ((f + (u * b)) + (1 : Int32))), (.ref a2)])) rfl rfl (hb hby d9_19)
  obtain ⟨T4, h4, L4, X4, e4, N4, Kq4, V4, st4⟩ := cpA X3 hx hZ hown (hw _ (List.mem_of_getElem? (i := 70) rfl)) (hw _ (List.mem_of_getElem? (i := 73) rfl)) (hw _ (List.mem_of_getElem? (i := 71) rfl)) (hw _ (List.mem_of_getElem? (i := 72) rfl)) e3 V1 V1 (Or.inl ⟨rfl, rfl⟩) q1 q2 q3 q4 q5 rfl (by rw [hv]; exact q5) N0 g_a2 (g := (mkF m 24 #[.val (.ref a1), .val (.ref a2), .val (.int u), .val (.int (f + (u * b)))] [(.int (b - (1 : Int32))), (.int (f + (u * b))), (.ref a2), (.int ((f + (u * b)) + (1 : Int32))), (.ref a2)])) rfl (by rw [hml]; rfl) rfl (hb hby d9_24) (by decide) (W := 0) (by show 2 * 0 + _ ≤ _; exact Nat.le_of_eq rfl) (by decide)
  have Vc4 : Arv Z h4 a2 k .int (8 : Int32) (vs.take (f + (u * b)).toNatClampNeg ++ ((List.range (b - (1 : Int32)).toNatClampNeg).map fun i => vs.getD (((f + (u * b)) + (1 : Int32)).toNatClampNeg + i) (.int (0 : Int32))) ++ vs.drop ((f + (u * b)).toNatClampNeg + (b - (1 : Int32)).toNatClampNeg)) (.int (0 : Int32)) := V4
  have Z4 : n0 ≤ h4.size := Nat.le_trans Z0 Kq4.1
  have K4 : Keep h0 h4 [a2] := (Keep.refl h0 [a2]).trans Kq4 (allS (Or.inl (List.mem_of_getElem? (i := 0) rfl)) all0)
  have fc6 := (F2.keep Kq4 (ninS hne nin0))
  obtain ⟨T5, X5, e5, st5⟩ := getF X4 hx hZ hown (host := "") (Or.inl (hw _ (List.mem_of_getElem? (i := 58) rfl))) Via.refl e4 fc6 (g := (mkF m 30 #[.val (.ref a1), .val (.ref a2), .val (.int u), .val (.int (f + (u * b)))] [(.ref a1), (.int (f + (u * b))), (.ref a2)])) rfl rfl (hb hby d9_30)
  obtain ⟨cl7, Ar7, qc7, S7, Nn7, H7, G7⟩ := id Vc4
  have hin7 : ¬ ((((f + (u * b)) + b) - (1 : Int32)) < 0 ∨ cl7.slots.size ≤ ((((f + (u * b)) + b) - (1 : Int32))).toNatClampNeg) := inb_of S7 q6
  obtain ⟨T8, h8, X8, e8, W8, st8⟩ := stI X5 hx hZ e5 Ar7 (j := (((f + (u * b)) + b) - (1 : Int32))) hin7 (g := (mkF m 37 #[.val (.ref a1), .val (.ref a2), .val (.int u), .val (.int (f + (u * b)))] [(.int (0 : Int32)), (.int (((f + (u * b)) + b) - (1 : Int32))), (.ref a2)])) rfl rfl (hb hby d9_37)
  have V8 : Arv Z h8 a2 k .int (8 : Int32) (own_tkv vs f u b) (.int (0 : Int32)) := Arv.set Ar7 qc7 S7 Nn7 H7 G7 rfl W8 (((f + (u * b)) + b) - (1 : Int32)).toNatClampNeg rfl (own_len8 hv q5 (by have q := q6.2; have q0 := q6.1; rw [Int32.lt_iff_toInt_lt] at q q0; have t8 : (8 : Int32).toInt = 8 := rfl; have t0 : (0 : Int32).toInt = 0 := rfl; simp only [Int32.toNatClampNeg]; omega))
  have K8 : Keep h0 h8 [a2] := K4.wr W8 (Or.inl (List.mem_of_getElem? (i := 0) rfl))
  have N8 := Fr.snoc X8 N4 g_a2
  have Z8 : n0 ≤ h8.size := Nat.le_trans Z4 (Keep.of_wr W8).1
  obtain ⟨fs, hr, hrun, hended, hW, hsame⟩ := X8.leave (v := some (.ref a2)) (fun h => by rw [Bd.returns] at h; cases h)
  refine ⟨_, _, pre0 _ ?_, hrun, hended, _, _, rfl, ?_, ⟨_, rfl⟩, hW, hsame.mono (by decide) (by decide)⟩
  · show Steps p.tables e below (s₁.setTop (mkF m 0 #[.val (.ref a1), .val (.ref a2), .val (.int u), .unset] [])) _
    refine XS.aloadN X0.here hx rfl (hb hby d9_0) rfl rfl ?_
    show Steps p.tables e below (s₁.setTop (mkF m 1 #[.val (.ref a1), .val (.ref a2), .val (.int u), .unset] [(.ref a1)])) _
    refine st1 _ ?_
    show Steps p.tables e below (T1.setTop (mkF m 4 #[.val (.ref a1), .val (.ref a2), .val (.int u), .unset] [(.int f)])) _
    refine XS.iloadN X1.here hx rfl (hb hby d9_4) rfl ?_
    show Steps p.tables e below (T1.setTop (mkF m 5 #[.val (.ref a1), .val (.ref a2), .val (.int u), .unset] [(.int u), (.int f)])) _
    refine XS.aloadN X1.here hx rfl (hb hby d9_5) rfl rfl ?_
    show Steps p.tables e below (T1.setTop (mkF m 6 #[.val (.ref a1), .val (.ref a2), .val (.int u), .unset] [(.ref a1), (.int u), (.int f)])) _
    refine st2 _ ?_
    show Steps p.tables e below (T2.setTop (mkF m 9 #[.val (.ref a1), .val (.ref a2), .val (.int u), .unset] [(.int b), (.int u), (.int f)])) _
    refine XS.imul X2.here hx rfl (hb hby d9_9) rfl ?_
    show Steps p.tables e below (T2.setTop (mkF m 10 #[.val (.ref a1), .val (.ref a2), .val (.int u), .unset] [(.int (u * b)), (.int f)])) _
    refine XS.iadd X2.here hx rfl (hb hby d9_10) rfl ?_
    show Steps p.tables e below (T2.setTop (mkF m 11 #[.val (.ref a1), .val (.ref a2), .val (.int u), .unset] [(.int (f + (u * b)))])) _
    refine XS.istoreN X2.here hx rfl (hb hby d9_11) rfl (l' := #[.val (.ref a1), .val (.ref a2), .val (.int u), .val (.int (f + (u * b)))]) rfl ?_
    show Steps p.tables e below (T2.setTop (mkF m 12 #[.val (.ref a1), .val (.ref a2), .val (.int u), .val (.int (f + (u * b)))] [])) _
    refine XS.aloadN X2.here hx rfl (hb hby d9_12) rfl rfl ?_
    show Steps p.tables e below (T2.setTop (mkF m 13 #[.val (.ref a1), .val (.ref a2), .val (.int u), .val (.int (f + (u * b)))] [(.ref a2)])) _
    refine XS.iloadN X2.here hx rfl (hb hby d9_13) rfl ?_
    show Steps p.tables e below (T2.setTop (mkF m 14 #[.val (.ref a1), .val (.ref a2), .val (.int u), .val (.int (f + (u * b)))] [(.int (f + (u * b))), (.ref a2)])) _
    refine XS.iconst X2.here hx rfl (hb hby d9_14) ?_
    show Steps p.tables e below (T2.setTop (mkF m 15 #[.val (.ref a1), .val (.ref a2), .val (.int u), .val (.int (f + (u * b)))] [(.int (1 : Int32)), (.int (f + (u * b))), (.ref a2)])) _
    refine XS.iadd X2.here hx rfl (hb hby d9_15) rfl ?_
    show Steps p.tables e below (T2.setTop (mkF m 16 #[.val (.ref a1), .val (.ref a2), .val (.int u), .val (.int (f + (u * b)))] [(.int ((f + (u * b)) + (1 : Int32))), (.ref a2)])) _
    refine XS.aloadN X2.here hx rfl (hb hby d9_16) rfl rfl ?_
    show Steps p.tables e below (T2.setTop (mkF m 17 #[.val (.ref a1), .val (.ref a2), .val (.int u), .val (.int (f + (u * b)))] [(.ref a2), (.int ((f + (u * b)) + (1 : Int32))), (.ref a2)])) _
    refine XS.iloadN X2.here hx rfl (hb hby d9_17) rfl ?_
    show Steps p.tables e below (T2.setTop (mkF m 18 #[.val (.ref a1), .val (.ref a2), .val (.int u), .val (.int (f + (u * b)))] [(.int (f + (u * b))), (.ref a2), (.int ((f + (u * b)) + (1 : Int32))), (.ref a2)])) _
    refine XS.aloadN X2.here hx rfl (hb hby d9_18) rfl rfl ?_
    show Steps p.tables e below (T2.setTop (mkF m 19 #[.val (.ref a1), .val (.ref a2), .val (.int u), .val (.int (f + (u * b)))] [(.ref a1), (.int (f + (u * b))), (.ref a2), (.int ((f + (u * b)) + (1 : Int32))), (.ref a2)])) _
    refine st3 _ ?_
    show Steps p.tables e below (T3.setTop (mkF m 22 #[.val (.ref a1), .val (.ref a2), .val (.int u), .val (.int (f + (u * b)))] [(.int b), (.int (f + (u * b))), (.ref a2), (.int ((f + (u * b)) + (1 : Int32))), (.ref a2)])) _
    refine XS.iconst X3.here hx rfl (hb hby d9_22) ?_
    show Steps p.tables e below (T3.setTop (mkF m 23 #[.val (.ref a1), .val (.ref a2), .val (.int u), .val (.int (f + (u * b)))] [(.int (1 : Int32)), (.int b), (.int (f + (u * b))), (.ref a2), (.int ((f + (u * b)) + (1 : Int32))), (.ref a2)])) _
    refine XS.isub X3.here hx rfl (hb hby d9_23) rfl ?_
    show Steps p.tables e below (T3.setTop (mkF m 24 #[.val (.ref a1), .val (.ref a2), .val (.int u), .val (.int (f + (u * b)))] [(.int (b - (1 : Int32))), (.int (f + (u * b))), (.ref a2), (.int ((f + (u * b)) + (1 : Int32))), (.ref a2)])) _
    refine st4 _ ?_
    show Steps p.tables e below (T4.setTop (mkF m 27 #[.val (.ref a1), .val (.ref a2), .val (.int u), .val (.int (f + (u * b)))] [])) _
    refine XS.aloadN X4.here hx rfl (hb hby d9_27) rfl rfl ?_
    show Steps p.tables e below (T4.setTop (mkF m 28 #[.val (.ref a1), .val (.ref a2), .val (.int u), .val (.int (f + (u * b)))] [(.ref a2)])) _
    refine XS.iloadN X4.here hx rfl (hb hby d9_28) rfl ?_
    show Steps p.tables e below (T4.setTop (mkF m 29 #[.val (.ref a1), .val (.ref a2), .val (.int u), .val (.int (f + (u * b)))] [(.int (f + (u * b))), (.ref a2)])) _
    refine XS.aloadN X4.here hx rfl (hb hby d9_29) rfl rfl ?_
    show Steps p.tables e below (T4.setTop (mkF m 30 #[.val (.ref a1), .val (.ref a2), .val (.int u), .val (.int (f + (u * b)))] [(.ref a1), (.int (f + (u * b))), (.ref a2)])) _
    refine st5 _ ?_
    show Steps p.tables e below (T5.setTop (mkF m 33 #[.val (.ref a1), .val (.ref a2), .val (.int u), .val (.int (f + (u * b)))] [(.int b), (.int (f + (u * b))), (.ref a2)])) _
    refine XS.iadd X5.here hx rfl (hb hby d9_33) rfl ?_
    show Steps p.tables e below (T5.setTop (mkF m 34 #[.val (.ref a1), .val (.ref a2), .val (.int u), .val (.int (f + (u * b)))] [(.int ((f + (u * b)) + b)), (.ref a2)])) _
    refine XS.iconst X5.here hx rfl (hb hby d9_34) ?_
    show Steps p.tables e below (T5.setTop (mkF m 35 #[.val (.ref a1), .val (.ref a2), .val (.int u), .val (.int (f + (u * b)))] [(.int (1 : Int32)), (.int ((f + (u * b)) + b)), (.ref a2)])) _
    refine XS.isub X5.here hx rfl (hb hby d9_35) rfl ?_
    show Steps p.tables e below (T5.setTop (mkF m 36 #[.val (.ref a1), .val (.ref a2), .val (.int u), .val (.int (f + (u * b)))] [(.int (((f + (u * b)) + b) - (1 : Int32))), (.ref a2)])) _
    refine XS.iconst X5.here hx rfl (hb hby d9_36) ?_
    show Steps p.tables e below (T5.setTop (mkF m 37 #[.val (.ref a1), .val (.ref a2), .val (.int u), .val (.int (f + (u * b)))] [(.int (0 : Int32)), (.int (((f + (u * b)) + b) - (1 : Int32))), (.ref a2)])) _
    refine st8 _ ?_
    show Steps p.tables e below (T8.setTop (mkF m 38 #[.val (.ref a1), .val (.ref a2), .val (.int u), .val (.int (f + (u * b)))] [])) _
    refine XS.aloadN X8.here hx rfl (hb hby d9_38) rfl rfl ?_
    show Steps p.tables e below (T8.setTop (mkF m 39 #[.val (.ref a1), .val (.ref a2), .val (.int u), .val (.int (f + (u * b)))] [(.ref a2)])) _
    exact retOut X8 hx Bd.returns rfl (Or.inr (Or.inr (Or.inr (Or.inr ⟨rfl, rfl, rfl⟩)))) (hb hby d9_39) hr
  · show Qown_take Z a1 a2 u f b k vs h0 n0 _ T8.heap _
    rw [e8]
    exact ⟨rfl, N8, K8, V8⟩
theorem d10_0 : decode method_3_code 0 = .ok (.iload_n 2, 1) := by decide +kernel
theorem d10_1 : decode method_3_code 1 = .ok (.iload_n 3, 1) := by decide +kernel
theorem d10_2 : decode method_3_code 2 = .ok (.if_icmp .lt 11, 3) := by decide +kernel
theorem d10_13 : decode method_3_code 13 = .ok (.aload_n 0, 1) := by decide +kernel
theorem d10_14 : decode method_3_code 14 = .ok (.iload_n 2, 1) := by decide +kernel
theorem d10_15 : decode method_3_code 15 = .ok (.iaload, 1) := by decide +kernel
theorem d10_16 : decode method_3_code 16 = .ok (.istore 5, 2) := by decide +kernel
theorem d10_18 : decode method_3_code 18 = .ok (.goto 26, 3) := by decide +kernel
theorem d10_44 : decode method_3_code 44 = .ok (.aload_n 1, 1) := by decide +kernel
theorem d10_45 : decode method_3_code 45 = .ok (.iload_n 2, 1) := by decide +kernel
theorem d10_46 : decode method_3_code 46 = .ok (.iaload, 1) := by decide +kernel
theorem d10_47 : decode method_3_code 47 = .ok (.iload 5, 2) := by decide +kernel
theorem d10_49 : decode method_3_code 49 = .ok (.if_icmp .ne 7, 3) := by decide +kernel
theorem d10_52 : decode method_3_code 52 = .ok (.iconst 1, 1) := by decide +kernel
theorem d10_53 : decode method_3_code 53 = .ok (.goto 4, 3) := by decide +kernel
theorem d10_57 : decode method_3_code 57 = .ok (.ireturn, 1) := by decide +kernel
theorem d10_56 : decode method_3_code 56 = .ok (.iconst 0, 1) := by decide +kernel
theorem d10_5 : decode method_3_code 5 = .ok (.iload_n 2, 1) := by decide +kernel
theorem d10_6 : decode method_3_code 6 = .ok (.iload_n 3, 1) := by decide +kernel
theorem d10_7 : decode method_3_code 7 = .ok (.iload 4, 2) := by decide +kernel
theorem d10_9 : decode method_3_code 9 = .ok (.iadd, 1) := by decide +kernel
theorem d10_10 : decode method_3_code 10 = .ok (.if_icmp .lt 11, 3) := by decide +kernel
theorem d10_21 : decode method_3_code 21 = .ok (.iload_n 2, 1) := by decide +kernel
theorem d10_22 : decode method_3_code 22 = .ok (.iload_n 3, 1) := by decide +kernel
theorem d10_23 : decode method_3_code 23 = .ok (.iload 4, 2) := by decide +kernel
theorem d10_25 : decode method_3_code 25 = .ok (.iadd, 1) := by decide +kernel
theorem d10_26 : decode method_3_code 26 = .ok (.iconst 1, 1) := by decide +kernel
theorem d10_27 : decode method_3_code 27 = .ok (.isub, 1) := by decide +kernel
theorem d10_28 : decode method_3_code 28 = .ok (.if_icmp .ne 9, 3) := by decide +kernel
theorem d10_31 : decode method_3_code 31 = .ok (.iconst 0, 1) := by decide +kernel
theorem d10_32 : decode method_3_code 32 = .ok (.istore 5, 2) := by decide +kernel
theorem d10_34 : decode method_3_code 34 = .ok (.goto 10, 3) := by decide +kernel
theorem d10_37 : decode method_3_code 37 = .ok (.aload_n 0, 1) := by decide +kernel
theorem d10_38 : decode method_3_code 38 = .ok (.iload_n 2, 1) := by decide +kernel
theorem d10_39 : decode method_3_code 39 = .ok (.iconst 1, 1) := by decide +kernel
theorem d10_40 : decode method_3_code 40 = .ok (.iadd, 1) := by decide +kernel
theorem d10_41 : decode method_3_code 41 = .ok (.iaload, 1) := by decide +kernel
theorem d10_42 : decode method_3_code 42 = .ok (.istore 5, 2) := by decide +kernel
theorem pn_com_example_orbweaver_orbweaver_engine_BuffersTakePinLaw : plainName "com/example/orbweaver/orbweaver/engine/BuffersTakePinLaw" = true := by first | (simp [plainName, overriddenIn]; done) | decide +kernel
theorem ef_own_mok (m : MethodId) (x0 : Addr) (x1 : Addr) (x2 : Int32) (x3 : Int32) (x4 : Int32) : entryFrame m #[(.ref x0), (.ref x1), (.int x2), (.int x3), (.int x4)] 6 = mkF m 0 #[.val (.ref x0), .val (.ref x1), .val (.int x2), .val (.int x3), .val (.int x4), .unset] [] := by first | (simp [entryFrame, mkF, argsToLocals, Value.category]; done) | rfl
def Qown_mok (Z : State) (a1 : Addr) (a2 : Addr) (i : Int32) (st : Int32) (bd : Int32) (k1 : ClassId) (k2 : ClassId) (xs : List Int32) (ys : List Int32) (h0 : Heap) (n0 : Nat) (v : Option Value) (h : Heap) (L : List Loc) : Prop := v = some (.int (own_ok xs ys i st bd)) ∧ Fr n0 L ∧ h = h0
set_option maxRecDepth 65536 in
set_option maxHeartbeats 40000000 in
theorem own_mok (l : Launch) (Z : State) (a0 : Array Value) (hw : ∀ d ∈ tables_1, d.before a0 Z = true) (ws : List Jvm.Cond) (a1 : Addr) (a2 : Addr) (i : Int32) (st : Int32) (bd : Int32) (k1 : ClassId) (k2 : ClassId) (xs : List Int32) (ys : List Int32) (h0 : Heap) (n0 : Nat) (Z0 : n0 ≤ h0.size) (V1 : Arv Z h0 a1 k1 .int (8 : Int32) (xs.map Value.int) (.int (0 : Int32))) (V2 : Arv Z h0 a2 k2 .int (8 : Int32) (ys.map Value.int) (.int (0 : Int32))) (hi : ¬ i < 0 ∧ i < (8 : Int32)) (hj : ¬ (i < st) → i < (st + bd) → ¬ (i = ((st + bd) - (1 : Int32))) → ¬ (i + (1 : Int32)) < 0 ∧ (i + (1 : Int32)) < (8 : Int32)) :
    MetFree l (⟨"com/example/orbweaver/orbweaver/engine/BuffersTakePinLaw", "ok", "([I[IIII)Z"⟩ : MethodName) (head1 (Jvm.Cond.code (⟨"com/example/orbweaver/orbweaver/engine/BuffersTakePinLaw", "ok", "([I[IIII)Z"⟩ : MethodName) method_3_code 6 (some .boolean) :: ws) ({ frames := 0, cells := 0, slots := 0, locals := 0 } : Room)) (fun a U => a = #[(.ref a1), (.ref a2), (.int i), (.int st), (.int bd)] ∧ Z.Warmed39 U.vm ∧ U.heap = h0) (fun _ _ _ _ _ => True) (fun _ U o U' => ∃ v L, o = .returned v ∧ Qown_mok Z a1 a2 i st bd k1 k2 xs ys h0 n0 v U'.heap L ∧ FrameEnd U o U' L ({ frames := 0, cells := 0, slots := 0, locals := 0 } : Room).cells ({ frames := 0, cells := 0, slots := 0, locals := 0 } : Room).slots) := by
  refine MetFree.of_bodySF (plainFor_of_name pn_com_example_orbweaver_orbweaver_engine_BuffersTakePinLaw) hisR ?_
  intro p e s m args below meth c s₁ Bd hml0 hP hK
  obtain ⟨rfl, hZ, hh⟩ := hP
  have hx := Bd.exec
  have hby := Bd.bytes
  have hml : c.maxLocals = 6 := hml0
  have hown : s.vm.findClass "com/example/orbweaver/orbweaver/engine/BuffersTakePinLaw" = some m.cls := findClass_of_methodNamed Bd.named
  have hnm := (name_of_methodNamed Bd.named Bd.method).1
  have X0 : Stand p l e ({ frames := 0, cells := 0, slots := 0, locals := 0 } : Room) s m #[(.ref a1), (.ref a2), (.int i), (.int st), (.int bd)] below meth c s₁ [] 0 0 := Stand.of_body Bd
  have e0 : s₁.heap = h0 := by rw [← hh, Bd.state]; rfl
  have N0 := Fr.nil n0
  have pre0 : ∀ t, Steps p.tables e below (s₁.setTop (mkF m 0 #[.val (.ref a1), .val (.ref a2), .val (.int i), .val (.int st), .val (.int bd), .unset] [])) t → Steps p.tables e below (s₁.setTop (entryFrame m #[(.ref a1), (.ref a2), (.int i), (.int st), (.int bd)] 6)) t := fun t k => castTop (ef_own_mok m (a1) (a2) (i) (st) (bd)) k
  by_cases h1 : i < st
  · obtain ⟨cl1, Ar1, qc1, S1, Nn1, H1, G1⟩ := id V1
    have hin1 : ¬ (i < 0 ∨ cl1.slots.size ≤ (i).toNatClampNeg) := inb_of S1 hi
    have hat1 : cl1.slots[(i).toNatClampNeg]? = some (.int (xs.getD i.toNatClampNeg 0)) := H1.at hin1 (own_getD _ _)
    obtain ⟨cl2, Ar2, qc2, S2, Nn2, H2, G2⟩ := id V2
    have hin2 : ¬ (i < 0 ∨ cl2.slots.size ≤ (i).toNatClampNeg) := inb_of S2 hi
    have hat2 : cl2.slots[(i).toNatClampNeg]? = some (.int (ys.getD i.toNatClampNeg 0)) := H2.at hin2 (own_getD _ _)
    by_cases hq : ys.getD i.toNatClampNeg 0 = (xs.getD i.toNatClampNeg 0)
    · obtain ⟨fs, hr, hrun, hended, hW, hsame⟩ := X0.leave (v := some (.int (1 : Int32))) (fun h => by rw [Bd.returns] at h; cases h)
      refine ⟨_, _, pre0 _ ?_, hrun, hended, _, _, rfl, ?_, ⟨_, rfl⟩, hW, hsame.mono (by decide) (by decide)⟩
      · show Steps p.tables e below (s₁.setTop (mkF m 0 #[.val (.ref a1), .val (.ref a2), .val (.int i), .val (.int st), .val (.int bd), .unset] [])) _
        refine XS.iloadN X0.here hx rfl (hb hby d10_0) rfl ?_
        show Steps p.tables e below (s₁.setTop (mkF m 1 #[.val (.ref a1), .val (.ref a2), .val (.int i), .val (.int st), .val (.int bd), .unset] [(.int i)])) _
        refine XS.iloadN X0.here hx rfl (hb hby d10_1) rfl ?_
        show Steps p.tables e below (s₁.setTop (mkF m 2 #[.val (.ref a1), .val (.ref a2), .val (.int i), .val (.int st), .val (.int bd), .unset] [(.int st), (.int i)])) _
        refine XS.icmpYes X0.here hx rfl (pc0 := 2) (pc' := 13) rfl (hb hby d10_2) rfl (tlt (h1 : i < st)).1 (by decide) (by decide) ?_
        show Steps p.tables e below (s₁.setTop (mkF m 13 #[.val (.ref a1), .val (.ref a2), .val (.int i), .val (.int st), .val (.int bd), .unset] [])) _
        refine XS.aloadN X0.here hx rfl (hb hby d10_13) rfl rfl ?_
        show Steps p.tables e below (s₁.setTop (mkF m 14 #[.val (.ref a1), .val (.ref a2), .val (.int i), .val (.int st), .val (.int bd), .unset] [(.ref a1)])) _
        refine XS.iloadN X0.here hx rfl (hb hby d10_14) rfl ?_
        show Steps p.tables e below (s₁.setTop (mkF m 15 #[.val (.ref a1), .val (.ref a2), .val (.int i), .val (.int st), .val (.int bd), .unset] [(.int i), (.ref a1)])) _
        refine X0.iaload hx (j := i) (v := (.int (xs.getD i.toNatClampNeg 0))) (by rw [e0]; exact Ar1.1) (State.isArrayOf_alike hZ.alike Ar1.2.1) Ar1.2.2 hin1 hat1 (g := (mkF m 15 #[.val (.ref a1), .val (.ref a2), .val (.int i), .val (.int st), .val (.int bd), .unset] [(.int i), (.ref a1)])) rfl rfl (hb hby d10_15) _ ?_
        show Steps p.tables e below (s₁.setTop (mkF m 16 #[.val (.ref a1), .val (.ref a2), .val (.int i), .val (.int st), .val (.int bd), .unset] [(.int (xs.getD i.toNatClampNeg 0))])) _
        refine XS.istore X0.here hx rfl (hb hby d10_16) rfl (l' := #[.val (.ref a1), .val (.ref a2), .val (.int i), .val (.int st), .val (.int bd), .val (.int (xs.getD i.toNatClampNeg 0))]) rfl ?_
        show Steps p.tables e below (s₁.setTop (mkF m 18 #[.val (.ref a1), .val (.ref a2), .val (.int i), .val (.int st), .val (.int bd), .val (.int (xs.getD i.toNatClampNeg 0))] [])) _
        refine XS.goto X0.here hx rfl (pc0 := 18) (pc' := 44) rfl (hb hby d10_18) (by decide) (by decide) ?_
        show Steps p.tables e below (s₁.setTop (mkF m 44 #[.val (.ref a1), .val (.ref a2), .val (.int i), .val (.int st), .val (.int bd), .val (.int (xs.getD i.toNatClampNeg 0))] [])) _
        refine XS.aloadN X0.here hx rfl (hb hby d10_44) rfl rfl ?_
        show Steps p.tables e below (s₁.setTop (mkF m 45 #[.val (.ref a1), .val (.ref a2), .val (.int i), .val (.int st), .val (.int bd), .val (.int (xs.getD i.toNatClampNeg 0))] [(.ref a2)])) _
        refine XS.iloadN X0.here hx rfl (hb hby d10_45) rfl ?_
        show Steps p.tables e below (s₁.setTop (mkF m 46 #[.val (.ref a1), .val (.ref a2), .val (.int i), .val (.int st), .val (.int bd), .val (.int (xs.getD i.toNatClampNeg 0))] [(.int i), (.ref a2)])) _
        refine X0.iaload hx (j := i) (v := (.int (ys.getD i.toNatClampNeg 0))) (by rw [e0]; exact Ar2.1) (State.isArrayOf_alike hZ.alike Ar2.2.1) Ar2.2.2 hin2 hat2 (g := (mkF m 46 #[.val (.ref a1), .val (.ref a2), .val (.int i), .val (.int st), .val (.int bd), .val (.int (xs.getD i.toNatClampNeg 0))] [(.int i), (.ref a2)])) rfl rfl (hb hby d10_46) _ ?_
        show Steps p.tables e below (s₁.setTop (mkF m 47 #[.val (.ref a1), .val (.ref a2), .val (.int i), .val (.int st), .val (.int bd), .val (.int (xs.getD i.toNatClampNeg 0))] [(.int (ys.getD i.toNatClampNeg 0))])) _
        refine XS.iload X0.here hx rfl (hb hby d10_47) rfl ?_
        show Steps p.tables e below (s₁.setTop (mkF m 49 #[.val (.ref a1), .val (.ref a2), .val (.int i), .val (.int st), .val (.int bd), .val (.int (xs.getD i.toNatClampNeg 0))] [(.int (xs.getD i.toNatClampNeg 0)), (.int (ys.getD i.toNatClampNeg 0))])) _
        refine XS.icmpNo X0.here hx rfl (hb hby d10_49) rfl (teq (hq : (ys.getD i.toNatClampNeg 0) = (xs.getD i.toNatClampNeg 0))).2 ?_
        show Steps p.tables e below (s₁.setTop (mkF m 52 #[.val (.ref a1), .val (.ref a2), .val (.int i), .val (.int st), .val (.int bd), .val (.int (xs.getD i.toNatClampNeg 0))] [])) _
        refine XS.iconst X0.here hx rfl (hb hby d10_52) ?_
        show Steps p.tables e below (s₁.setTop (mkF m 53 #[.val (.ref a1), .val (.ref a2), .val (.int i), .val (.int st), .val (.int bd), .val (.int (xs.getD i.toNatClampNeg 0))] [(.int (1 : Int32))])) _
        refine XS.goto X0.here hx rfl (pc0 := 53) (pc' := 57) rfl (hb hby d10_53) (by decide) (by decide) ?_
        show Steps p.tables e below (s₁.setTop (mkF m 57 #[.val (.ref a1), .val (.ref a2), .val (.int i), .val (.int st), .val (.int bd), .val (.int (xs.getD i.toNatClampNeg 0))] [(.int (1 : Int32))])) _
        exact retN X0 hx (t := .boolean) Bd.returns (by simp) (hb hby d10_57) hr
      · show Qown_mok Z a1 a2 i st bd k1 k2 xs ys h0 n0 _ s₁.heap _
        rw [e0]
        exact ⟨by unfold own_ok own_want; rw [if_pos h1, if_pos hq], N0, rfl⟩
    · obtain ⟨fs, hr, hrun, hended, hW, hsame⟩ := X0.leave (v := some (.int (0 : Int32))) (fun h => by rw [Bd.returns] at h; cases h)
      refine ⟨_, _, pre0 _ ?_, hrun, hended, _, _, rfl, ?_, ⟨_, rfl⟩, hW, hsame.mono (by decide) (by decide)⟩
      · show Steps p.tables e below (s₁.setTop (mkF m 0 #[.val (.ref a1), .val (.ref a2), .val (.int i), .val (.int st), .val (.int bd), .unset] [])) _
        refine XS.iloadN X0.here hx rfl (hb hby d10_0) rfl ?_
        show Steps p.tables e below (s₁.setTop (mkF m 1 #[.val (.ref a1), .val (.ref a2), .val (.int i), .val (.int st), .val (.int bd), .unset] [(.int i)])) _
        refine XS.iloadN X0.here hx rfl (hb hby d10_1) rfl ?_
        show Steps p.tables e below (s₁.setTop (mkF m 2 #[.val (.ref a1), .val (.ref a2), .val (.int i), .val (.int st), .val (.int bd), .unset] [(.int st), (.int i)])) _
        refine XS.icmpYes X0.here hx rfl (pc0 := 2) (pc' := 13) rfl (hb hby d10_2) rfl (tlt (h1 : i < st)).1 (by decide) (by decide) ?_
        show Steps p.tables e below (s₁.setTop (mkF m 13 #[.val (.ref a1), .val (.ref a2), .val (.int i), .val (.int st), .val (.int bd), .unset] [])) _
        refine XS.aloadN X0.here hx rfl (hb hby d10_13) rfl rfl ?_
        show Steps p.tables e below (s₁.setTop (mkF m 14 #[.val (.ref a1), .val (.ref a2), .val (.int i), .val (.int st), .val (.int bd), .unset] [(.ref a1)])) _
        refine XS.iloadN X0.here hx rfl (hb hby d10_14) rfl ?_
        show Steps p.tables e below (s₁.setTop (mkF m 15 #[.val (.ref a1), .val (.ref a2), .val (.int i), .val (.int st), .val (.int bd), .unset] [(.int i), (.ref a1)])) _
        refine X0.iaload hx (j := i) (v := (.int (xs.getD i.toNatClampNeg 0))) (by rw [e0]; exact Ar1.1) (State.isArrayOf_alike hZ.alike Ar1.2.1) Ar1.2.2 hin1 hat1 (g := (mkF m 15 #[.val (.ref a1), .val (.ref a2), .val (.int i), .val (.int st), .val (.int bd), .unset] [(.int i), (.ref a1)])) rfl rfl (hb hby d10_15) _ ?_
        show Steps p.tables e below (s₁.setTop (mkF m 16 #[.val (.ref a1), .val (.ref a2), .val (.int i), .val (.int st), .val (.int bd), .unset] [(.int (xs.getD i.toNatClampNeg 0))])) _
        refine XS.istore X0.here hx rfl (hb hby d10_16) rfl (l' := #[.val (.ref a1), .val (.ref a2), .val (.int i), .val (.int st), .val (.int bd), .val (.int (xs.getD i.toNatClampNeg 0))]) rfl ?_
        show Steps p.tables e below (s₁.setTop (mkF m 18 #[.val (.ref a1), .val (.ref a2), .val (.int i), .val (.int st), .val (.int bd), .val (.int (xs.getD i.toNatClampNeg 0))] [])) _
        refine XS.goto X0.here hx rfl (pc0 := 18) (pc' := 44) rfl (hb hby d10_18) (by decide) (by decide) ?_
        show Steps p.tables e below (s₁.setTop (mkF m 44 #[.val (.ref a1), .val (.ref a2), .val (.int i), .val (.int st), .val (.int bd), .val (.int (xs.getD i.toNatClampNeg 0))] [])) _
        refine XS.aloadN X0.here hx rfl (hb hby d10_44) rfl rfl ?_
        show Steps p.tables e below (s₁.setTop (mkF m 45 #[.val (.ref a1), .val (.ref a2), .val (.int i), .val (.int st), .val (.int bd), .val (.int (xs.getD i.toNatClampNeg 0))] [(.ref a2)])) _
        refine XS.iloadN X0.here hx rfl (hb hby d10_45) rfl ?_
        show Steps p.tables e below (s₁.setTop (mkF m 46 #[.val (.ref a1), .val (.ref a2), .val (.int i), .val (.int st), .val (.int bd), .val (.int (xs.getD i.toNatClampNeg 0))] [(.int i), (.ref a2)])) _
        refine X0.iaload hx (j := i) (v := (.int (ys.getD i.toNatClampNeg 0))) (by rw [e0]; exact Ar2.1) (State.isArrayOf_alike hZ.alike Ar2.2.1) Ar2.2.2 hin2 hat2 (g := (mkF m 46 #[.val (.ref a1), .val (.ref a2), .val (.int i), .val (.int st), .val (.int bd), .val (.int (xs.getD i.toNatClampNeg 0))] [(.int i), (.ref a2)])) rfl rfl (hb hby d10_46) _ ?_
        show Steps p.tables e below (s₁.setTop (mkF m 47 #[.val (.ref a1), .val (.ref a2), .val (.int i), .val (.int st), .val (.int bd), .val (.int (xs.getD i.toNatClampNeg 0))] [(.int (ys.getD i.toNatClampNeg 0))])) _
        refine XS.iload X0.here hx rfl (hb hby d10_47) rfl ?_
        show Steps p.tables e below (s₁.setTop (mkF m 49 #[.val (.ref a1), .val (.ref a2), .val (.int i), .val (.int st), .val (.int bd), .val (.int (xs.getD i.toNatClampNeg 0))] [(.int (xs.getD i.toNatClampNeg 0)), (.int (ys.getD i.toNatClampNeg 0))])) _
        refine XS.icmpYes X0.here hx rfl (pc0 := 49) (pc' := 56) rfl (hb hby d10_49) rfl (feq (hq : ¬ ((ys.getD i.toNatClampNeg 0) = (xs.getD i.toNatClampNeg 0)))).2 (by decide) (by decide) ?_
        show Steps p.tables e below (s₁.setTop (mkF m 56 #[.val (.ref a1), .val (.ref a2), .val (.int i), .val (.int st), .val (.int bd), .val (.int (xs.getD i.toNatClampNeg 0))] [])) _
        refine XS.iconst X0.here hx rfl (hb hby d10_56) ?_
        show Steps p.tables e below (s₁.setTop (mkF m 57 #[.val (.ref a1), .val (.ref a2), .val (.int i), .val (.int st), .val (.int bd), .val (.int (xs.getD i.toNatClampNeg 0))] [(.int (0 : Int32))])) _
        exact retN X0 hx (t := .boolean) Bd.returns (by simp) (hb hby d10_57) hr
      · show Qown_mok Z a1 a2 i st bd k1 k2 xs ys h0 n0 _ s₁.heap _
        rw [e0]
        exact ⟨by unfold own_ok own_want; rw [if_pos h1, if_neg hq], N0, rfl⟩
  · by_cases h2 : i < (st + bd)
    · by_cases h3 : i = ((st + bd) - (1 : Int32))
      · obtain ⟨cl3, Ar3, qc3, S3, Nn3, H3, G3⟩ := id V2
        have hin3 : ¬ (i < 0 ∨ cl3.slots.size ≤ (i).toNatClampNeg) := inb_of S3 hi
        have hat3 : cl3.slots[(i).toNatClampNeg]? = some (.int (ys.getD i.toNatClampNeg 0)) := H3.at hin3 (own_getD _ _)
        by_cases hq : ys.getD i.toNatClampNeg 0 = (0 : Int32)
        · obtain ⟨fs, hr, hrun, hended, hW, hsame⟩ := X0.leave (v := some (.int (1 : Int32))) (fun h => by rw [Bd.returns] at h; cases h)
          refine ⟨_, _, pre0 _ ?_, hrun, hended, _, _, rfl, ?_, ⟨_, rfl⟩, hW, hsame.mono (by decide) (by decide)⟩
          · show Steps p.tables e below (s₁.setTop (mkF m 0 #[.val (.ref a1), .val (.ref a2), .val (.int i), .val (.int st), .val (.int bd), .unset] [])) _
            refine XS.iloadN X0.here hx rfl (hb hby d10_0) rfl ?_
            show Steps p.tables e below (s₁.setTop (mkF m 1 #[.val (.ref a1), .val (.ref a2), .val (.int i), .val (.int st), .val (.int bd), .unset] [(.int i)])) _
            refine XS.iloadN X0.here hx rfl (hb hby d10_1) rfl ?_
            show Steps p.tables e below (s₁.setTop (mkF m 2 #[.val (.ref a1), .val (.ref a2), .val (.int i), .val (.int st), .val (.int bd), .unset] [(.int st), (.int i)])) _
            refine XS.icmpNo X0.here hx rfl (hb hby d10_2) rfl (flt (h1 : ¬ (i < st))).1 ?_
            show Steps p.tables e below (s₁.setTop (mkF m 5 #[.val (.ref a1), .val (.ref a2), .val (.int i), .val (.int st), .val (.int bd), .unset] [])) _
            refine XS.iloadN X0.here hx rfl (hb hby d10_5) rfl ?_
            show Steps p.tables e below (s₁.setTop (mkF m 6 #[.val (.ref a1), .val (.ref a2), .val (.int i), .val (.int st), .val (.int bd), .unset] [(.int i)])) _
            refine XS.iloadN X0.here hx rfl (hb hby d10_6) rfl ?_
            show Steps p.tables e below (s₁.setTop (mkF m 7 #[.val (.ref a1), .val (.ref a2), .val (.int i), .val (.int st), .val (.int bd), .unset] [(.int st), (.int i)])) _
            refine XS.iload X0.here hx rfl (hb hby d10_7) rfl ?_
            show Steps p.tables e below (s₁.setTop (mkF m 9 #[.val (.ref a1), .val (.ref a2), .val (.int i), .val (.int st), .val (.int bd), .unset] [(.int bd), (.int st), (.int i)])) _
            refine XS.iadd X0.here hx rfl (hb hby d10_9) rfl ?_
            show Steps p.tables e below (s₁.setTop (mkF m 10 #[.val (.ref a1), .val (.ref a2), .val (.int i), .val (.int st), .val (.int bd), .unset] [(.int (st + bd)), (.int i)])) _
            refine XS.icmpYes X0.here hx rfl (pc0 := 10) (pc' := 21) rfl (hb hby d10_10) rfl (tlt (h2 : i < (st + bd))).1 (by decide) (by decide) ?_
            show Steps p.tables e below (s₁.setTop (mkF m 21 #[.val (.ref a1), .val (.ref a2), .val (.int i), .val (.int st), .val (.int bd), .unset] [])) _
            refine XS.iloadN X0.here hx rfl (hb hby d10_21) rfl ?_
            show Steps p.tables e below (s₁.setTop (mkF m 22 #[.val (.ref a1), .val (.ref a2), .val (.int i), .val (.int st), .val (.int bd), .unset] [(.int i)])) _
            refine XS.iloadN X0.here hx rfl (hb hby d10_22) rfl ?_
            show Steps p.tables e below (s₁.setTop (mkF m 23 #[.val (.ref a1), .val (.ref a2), .val (.int i), .val (.int st), .val (.int bd), .unset] [(.int st), (.int i)])) _
            refine XS.iload X0.here hx rfl (hb hby d10_23) rfl ?_
            show Steps p.tables e below (s₁.setTop (mkF m 25 #[.val (.ref a1), .val (.ref a2), .val (.int i), .val (.int st), .val (.int bd), .unset] [(.int bd), (.int st), (.int i)])) _
            refine XS.iadd X0.here hx rfl (hb hby d10_25) rfl ?_
            show Steps p.tables e below (s₁.setTop (mkF m 26 #[.val (.ref a1), .val (.ref a2), .val (.int i), .val (.int st), .val (.int bd), .unset] [(.int (st + bd)), (.int i)])) _
            refine XS.iconst X0.here hx rfl (hb hby d10_26) ?_
            show Steps p.tables e below (s₁.setTop (mkF m 27 #[.val (.ref a1), .val (.ref a2), .val (.int i), .val (.int st), .val (.int bd), .unset] [(.int (1 : Int32)), (.int (st + bd)), (.int i)])) _
            refine XS.isub X0.here hx rfl (hb hby d10_27) rfl ?_
            show Steps p.tables e below (s₁.setTop (mkF m 28 #[.val (.ref a1), .val (.ref a2), .val (.int i), .val (.int st), .val (.int bd), .unset] [(.int ((st + bd) - (1 : Int32))), (.int i)])) _
            refine XS.icmpNo X0.here hx rfl (hb hby d10_28) rfl (teq (h3 : i = ((st + bd) - (1 : Int32)))).2 ?_
            show Steps p.tables e below (s₁.setTop (mkF m 31 #[.val (.ref a1), .val (.ref a2), .val (.int i), .val (.int st), .val (.int bd), .unset] [])) _
            refine XS.iconst X0.here hx rfl (hb hby d10_31) ?_
            show Steps p.tables e below (s₁.setTop (mkF m 32 #[.val (.ref a1), .val (.ref a2), .val (.int i), .val (.int st), .val (.int bd), .unset] [(.int (0 : Int32))])) _
            refine XS.istore X0.here hx rfl (hb hby d10_32) rfl (l' := #[.val (.ref a1), .val (.ref a2), .val (.int i), .val (.int st), .val (.int bd), .val (.int (0 : Int32))]) rfl ?_
            show Steps p.tables e below (s₁.setTop (mkF m 34 #[.val (.ref a1), .val (.ref a2), .val (.int i), .val (.int st), .val (.int bd), .val (.int (0 : Int32))] [])) _
            refine XS.goto X0.here hx rfl (pc0 := 34) (pc' := 44) rfl (hb hby d10_34) (by decide) (by decide) ?_
            show Steps p.tables e below (s₁.setTop (mkF m 44 #[.val (.ref a1), .val (.ref a2), .val (.int i), .val (.int st), .val (.int bd), .val (.int (0 : Int32))] [])) _
            refine XS.aloadN X0.here hx rfl (hb hby d10_44) rfl rfl ?_
            show Steps p.tables e below (s₁.setTop (mkF m 45 #[.val (.ref a1), .val (.ref a2), .val (.int i), .val (.int st), .val (.int bd), .val (.int (0 : Int32))] [(.ref a2)])) _
            refine XS.iloadN X0.here hx rfl (hb hby d10_45) rfl ?_
            show Steps p.tables e below (s₁.setTop (mkF m 46 #[.val (.ref a1), .val (.ref a2), .val (.int i), .val (.int st), .val (.int bd), .val (.int (0 : Int32))] [(.int i), (.ref a2)])) _
            refine X0.iaload hx (j := i) (v := (.int (ys.getD i.toNatClampNeg 0))) (by rw [e0]; exact Ar3.1) (State.isArrayOf_alike hZ.alike Ar3.2.1) Ar3.2.2 hin3 hat3 (g := (mkF m 46 #[.val (.ref a1), .val (.ref a2), .val (.int i), .val (.int st), .val (.int bd), .val (.int (0 : Int32))] [(.int i), (.ref a2)])) rfl rfl (hb hby d10_46) _ ?_
            show Steps p.tables e below (s₁.setTop (mkF m 47 #[.val (.ref a1), .val (.ref a2), .val (.int i), .val (.int st), .val (.int bd), .val (.int (0 : Int32))] [(.int (ys.getD i.toNatClampNeg 0))])) _
            refine XS.iload X0.here hx rfl (hb hby d10_47) rfl ?_
            show Steps p.tables e below (s₁.setTop (mkF m 49 #[.val (.ref a1), .val (.ref a2), .val (.int i), .val (.int st), .val (.int bd), .val (.int (0 : Int32))] [(.int (0 : Int32)), (.int (ys.getD i.toNatClampNeg 0))])) _
            refine XS.icmpNo X0.here hx rfl (hb hby d10_49) rfl (teq (hq : (ys.getD i.toNatClampNeg 0) = (0 : Int32))).2 ?_
            show Steps p.tables e below (s₁.setTop (mkF m 52 #[.val (.ref a1), .val (.ref a2), .val (.int i), .val (.int st), .val (.int bd), .val (.int (0 : Int32))] [])) _
            refine XS.iconst X0.here hx rfl (hb hby d10_52) ?_
            show Steps p.tables e below (s₁.setTop (mkF m 53 #[.val (.ref a1), .val (.ref a2), .val (.int i), .val (.int st), .val (.int bd), .val (.int (0 : Int32))] [(.int (1 : Int32))])) _
            refine XS.goto X0.here hx rfl (pc0 := 53) (pc' := 57) rfl (hb hby d10_53) (by decide) (by decide) ?_
            show Steps p.tables e below (s₁.setTop (mkF m 57 #[.val (.ref a1), .val (.ref a2), .val (.int i), .val (.int st), .val (.int bd), .val (.int (0 : Int32))] [(.int (1 : Int32))])) _
            exact retN X0 hx (t := .boolean) Bd.returns (by simp) (hb hby d10_57) hr
          · show Qown_mok Z a1 a2 i st bd k1 k2 xs ys h0 n0 _ s₁.heap _
            rw [e0]
            exact ⟨by unfold own_ok own_want; rw [if_neg h1, if_pos h2, if_pos h3, if_pos hq], N0, rfl⟩
        · obtain ⟨fs, hr, hrun, hended, hW, hsame⟩ := X0.leave (v := some (.int (0 : Int32))) (fun h => by rw [Bd.returns] at h; cases h)
          refine ⟨_, _, pre0 _ ?_, hrun, hended, _, _, rfl, ?_, ⟨_, rfl⟩, hW, hsame.mono (by decide) (by decide)⟩
          · show Steps p.tables e below (s₁.setTop (mkF m 0 #[.val (.ref a1), .val (.ref a2), .val (.int i), .val (.int st), .val (.int bd), .unset] [])) _
            refine XS.iloadN X0.here hx rfl (hb hby d10_0) rfl ?_
            show Steps p.tables e below (s₁.setTop (mkF m 1 #[.val (.ref a1), .val (.ref a2), .val (.int i), .val (.int st), .val (.int bd), .unset] [(.int i)])) _
            refine XS.iloadN X0.here hx rfl (hb hby d10_1) rfl ?_
            show Steps p.tables e below (s₁.setTop (mkF m 2 #[.val (.ref a1), .val (.ref a2), .val (.int i), .val (.int st), .val (.int bd), .unset] [(.int st), (.int i)])) _
            refine XS.icmpNo X0.here hx rfl (hb hby d10_2) rfl (flt (h1 : ¬ (i < st))).1 ?_
            show Steps p.tables e below (s₁.setTop (mkF m 5 #[.val (.ref a1), .val (.ref a2), .val (.int i), .val (.int st), .val (.int bd), .unset] [])) _
            refine XS.iloadN X0.here hx rfl (hb hby d10_5) rfl ?_
            show Steps p.tables e below (s₁.setTop (mkF m 6 #[.val (.ref a1), .val (.ref a2), .val (.int i), .val (.int st), .val (.int bd), .unset] [(.int i)])) _
            refine XS.iloadN X0.here hx rfl (hb hby d10_6) rfl ?_
            show Steps p.tables e below (s₁.setTop (mkF m 7 #[.val (.ref a1), .val (.ref a2), .val (.int i), .val (.int st), .val (.int bd), .unset] [(.int st), (.int i)])) _
            refine XS.iload X0.here hx rfl (hb hby d10_7) rfl ?_
            show Steps p.tables e below (s₁.setTop (mkF m 9 #[.val (.ref a1), .val (.ref a2), .val (.int i), .val (.int st), .val (.int bd), .unset] [(.int bd), (.int st), (.int i)])) _
            refine XS.iadd X0.here hx rfl (hb hby d10_9) rfl ?_
            show Steps p.tables e below (s₁.setTop (mkF m 10 #[.val (.ref a1), .val (.ref a2), .val (.int i), .val (.int st), .val (.int bd), .unset] [(.int (st + bd)), (.int i)])) _
            refine XS.icmpYes X0.here hx rfl (pc0 := 10) (pc' := 21) rfl (hb hby d10_10) rfl (tlt (h2 : i < (st + bd))).1 (by decide) (by decide) ?_
            show Steps p.tables e below (s₁.setTop (mkF m 21 #[.val (.ref a1), .val (.ref a2), .val (.int i), .val (.int st), .val (.int bd), .unset] [])) _
            refine XS.iloadN X0.here hx rfl (hb hby d10_21) rfl ?_
            show Steps p.tables e below (s₁.setTop (mkF m 22 #[.val (.ref a1), .val (.ref a2), .val (.int i), .val (.int st), .val (.int bd), .unset] [(.int i)])) _
            refine XS.iloadN X0.here hx rfl (hb hby d10_22) rfl ?_
            show Steps p.tables e below (s₁.setTop (mkF m 23 #[.val (.ref a1), .val (.ref a2), .val (.int i), .val (.int st), .val (.int bd), .unset] [(.int st), (.int i)])) _
            refine XS.iload X0.here hx rfl (hb hby d10_23) rfl ?_
            show Steps p.tables e below (s₁.setTop (mkF m 25 #[.val (.ref a1), .val (.ref a2), .val (.int i), .val (.int st), .val (.int bd), .unset] [(.int bd), (.int st), (.int i)])) _
            refine XS.iadd X0.here hx rfl (hb hby d10_25) rfl ?_
            show Steps p.tables e below (s₁.setTop (mkF m 26 #[.val (.ref a1), .val (.ref a2), .val (.int i), .val (.int st), .val (.int bd), .unset] [(.int (st + bd)), (.int i)])) _
            refine XS.iconst X0.here hx rfl (hb hby d10_26) ?_
            show Steps p.tables e below (s₁.setTop (mkF m 27 #[.val (.ref a1), .val (.ref a2), .val (.int i), .val (.int st), .val (.int bd), .unset] [(.int (1 : Int32)), (.int (st + bd)), (.int i)])) _
            refine XS.isub X0.here hx rfl (hb hby d10_27) rfl ?_
            show Steps p.tables e below (s₁.setTop (mkF m 28 #[.val (.ref a1), .val (.ref a2), .val (.int i), .val (.int st), .val (.int bd), .unset] [(.int ((st + bd) - (1 : Int32))), (.int i)])) _
            refine XS.icmpNo X0.here hx rfl (hb hby d10_28) rfl (teq (h3 : i = ((st + bd) - (1 : Int32)))).2 ?_
            show Steps p.tables e below (s₁.setTop (mkF m 31 #[.val (.ref a1), .val (.ref a2), .val (.int i), .val (.int st), .val (.int bd), .unset] [])) _
            refine XS.iconst X0.here hx rfl (hb hby d10_31) ?_
            show Steps p.tables e below (s₁.setTop (mkF m 32 #[.val (.ref a1), .val (.ref a2), .val (.int i), .val (.int st), .val (.int bd), .unset] [(.int (0 : Int32))])) _
            refine XS.istore X0.here hx rfl (hb hby d10_32) rfl (l' := #[.val (.ref a1), .val (.ref a2), .val (.int i), .val (.int st), .val (.int bd), .val (.int (0 : Int32))]) rfl ?_
            show Steps p.tables e below (s₁.setTop (mkF m 34 #[.val (.ref a1), .val (.ref a2), .val (.int i), .val (.int st), .val (.int bd), .val (.int (0 : Int32))] [])) _
            refine XS.goto X0.here hx rfl (pc0 := 34) (pc' := 44) rfl (hb hby d10_34) (by decide) (by decide) ?_
            show Steps p.tables e below (s₁.setTop (mkF m 44 #[.val (.ref a1), .val (.ref a2), .val (.int i), .val (.int st), .val (.int bd), .val (.int (0 : Int32))] [])) _
            refine XS.aloadN X0.here hx rfl (hb hby d10_44) rfl rfl ?_
            show Steps p.tables e below (s₁.setTop (mkF m 45 #[.val (.ref a1), .val (.ref a2), .val (.int i), .val (.int st), .val (.int bd), .val (.int (0 : Int32))] [(.ref a2)])) _
            refine XS.iloadN X0.here hx rfl (hb hby d10_45) rfl ?_
            show Steps p.tables e below (s₁.setTop (mkF m 46 #[.val (.ref a1), .val (.ref a2), .val (.int i), .val (.int st), .val (.int bd), .val (.int (0 : Int32))] [(.int i), (.ref a2)])) _
            refine X0.iaload hx (j := i) (v := (.int (ys.getD i.toNatClampNeg 0))) (by rw [e0]; exact Ar3.1) (State.isArrayOf_alike hZ.alike Ar3.2.1) Ar3.2.2 hin3 hat3 (g := (mkF m 46 #[.val (.ref a1), .val (.ref a2), .val (.int i), .val (.int st), .val (.int bd), .val (.int (0 : Int32))] [(.int i), (.ref a2)])) rfl rfl (hb hby d10_46) _ ?_
            show Steps p.tables e below (s₁.setTop (mkF m 47 #[.val (.ref a1), .val (.ref a2), .val (.int i), .val (.int st), .val (.int bd), .val (.int (0 : Int32))] [(.int (ys.getD i.toNatClampNeg 0))])) _
            refine XS.iload X0.here hx rfl (hb hby d10_47) rfl ?_
            show Steps p.tables e below (s₁.setTop (mkF m 49 #[.val (.ref a1), .val (.ref a2), .val (.int i), .val (.int st), .val (.int bd), .val (.int (0 : Int32))] [(.int (0 : Int32)), (.int (ys.getD i.toNatClampNeg 0))])) _
            refine XS.icmpYes X0.here hx rfl (pc0 := 49) (pc' := 56) rfl (hb hby d10_49) rfl (feq (hq : ¬ ((ys.getD i.toNatClampNeg 0) = (0 : Int32)))).2 (by decide) (by decide) ?_
            show Steps p.tables e below (s₁.setTop (mkF m 56 #[.val (.ref a1), .val (.ref a2), .val (.int i), .val (.int st), .val (.int bd), .val (.int (0 : Int32))] [])) _
            refine XS.iconst X0.here hx rfl (hb hby d10_56) ?_
            show Steps p.tables e below (s₁.setTop (mkF m 57 #[.val (.ref a1), .val (.ref a2), .val (.int i), .val (.int st), .val (.int bd), .val (.int (0 : Int32))] [(.int (0 : Int32))])) _
            exact retN X0 hx (t := .boolean) Bd.returns (by simp) (hb hby d10_57) hr
          · show Qown_mok Z a1 a2 i st bd k1 k2 xs ys h0 n0 _ s₁.heap _
            rw [e0]
            exact ⟨by unfold own_ok own_want; rw [if_neg h1, if_pos h2, if_pos h3, if_neg hq], N0, rfl⟩
      · obtain ⟨cl4, Ar4, qc4, S4, Nn4, H4, G4⟩ := id V1
        have hin4 : ¬ ((i + (1 : Int32)) < 0 ∨ cl4.slots.size ≤ ((i + (1 : Int32))).toNatClampNeg) := inb_of S4 (hj h1 h2 h3)
        have hat4 : cl4.slots[((i + (1 : Int32))).toNatClampNeg]? = some (.int (xs.getD (i + (1 : Int32)).toNatClampNeg 0)) := H4.at hin4 (own_getD _ _)
        obtain ⟨cl5, Ar5, qc5, S5, Nn5, H5, G5⟩ := id V2
        have hin5 : ¬ (i < 0 ∨ cl5.slots.size ≤ (i).toNatClampNeg) := inb_of S5 hi
        have hat5 : cl5.slots[(i).toNatClampNeg]? = some (.int (ys.getD i.toNatClampNeg 0)) := H5.at hin5 (own_getD _ _)
        by_cases hq : ys.getD i.toNatClampNeg 0 = (xs.getD (i + (1 : Int32)).toNatClampNeg 0)
        · obtain ⟨fs, hr, hrun, hended, hW, hsame⟩ := X0.leave (v := some (.int (1 : Int32))) (fun h => by rw [Bd.returns] at h; cases h)
          refine ⟨_, _, pre0 _ ?_, hrun, hended, _, _, rfl, ?_, ⟨_, rfl⟩, hW, hsame.mono (by decide) (by decide)⟩
          · show Steps p.tables e below (s₁.setTop (mkF m 0 #[.val (.ref a1), .val (.ref a2), .val (.int i), .val (.int st), .val (.int bd), .unset] [])) _
            refine XS.iloadN X0.here hx rfl (hb hby d10_0) rfl ?_
            show Steps p.tables e below (s₁.setTop (mkF m 1 #[.val (.ref a1), .val (.ref a2), .val (.int i), .val (.int st), .val (.int bd), .unset] [(.int i)])) _
            refine XS.iloadN X0.here hx rfl (hb hby d10_1) rfl ?_
            show Steps p.tables e below (s₁.setTop (mkF m 2 #[.val (.ref a1), .val (.ref a2), .val (.int i), .val (.int st), .val (.int bd), .unset] [(.int st), (.int i)])) _
            refine XS.icmpNo X0.here hx rfl (hb hby d10_2) rfl (flt (h1 : ¬ (i < st))).1 ?_
            show Steps p.tables e below (s₁.setTop (mkF m 5 #[.val (.ref a1), .val (.ref a2), .val (.int i), .val (.int st), .val (.int bd), .unset] [])) _
            refine XS.iloadN X0.here hx rfl (hb hby d10_5) rfl ?_
            show Steps p.tables e below (s₁.setTop (mkF m 6 #[.val (.ref a1), .val (.ref a2), .val (.int i), .val (.int st), .val (.int bd), .unset] [(.int i)])) _
            refine XS.iloadN X0.here hx rfl (hb hby d10_6) rfl ?_
            show Steps p.tables e below (s₁.setTop (mkF m 7 #[.val (.ref a1), .val (.ref a2), .val (.int i), .val (.int st), .val (.int bd), .unset] [(.int st), (.int i)])) _
            refine XS.iload X0.here hx rfl (hb hby d10_7) rfl ?_
            show Steps p.tables e below (s₁.setTop (mkF m 9 #[.val (.ref a1), .val (.ref a2), .val (.int i), .val (.int st), .val (.int bd), .unset] [(.int bd), (.int st), (.int i)])) _
            refine XS.iadd X0.here hx rfl (hb hby d10_9) rfl ?_
            show Steps p.tables e below (s₁.setTop (mkF m 10 #[.val (.ref a1), .val (.ref a2), .val (.int i), .val (.int st), .val (.int bd), .unset] [(.int (st + bd)), (.int i)])) _
            refine XS.icmpYes X0.here hx rfl (pc0 := 10) (pc' := 21) rfl (hb hby d10_10) rfl (tlt (h2 : i < (st + bd))).1 (by decide) (by decide) ?_
            show Steps p.tables e below (s₁.setTop (mkF m 21 #[.val (.ref a1), .val (.ref a2), .val (.int i), .val (.int st), .val (.int bd), .unset] [])) _
            refine XS.iloadN X0.here hx rfl (hb hby d10_21) rfl ?_
            show Steps p.tables e below (s₁.setTop (mkF m 22 #[.val (.ref a1), .val (.ref a2), .val (.int i), .val (.int st), .val (.int bd), .unset] [(.int i)])) _
            refine XS.iloadN X0.here hx rfl (hb hby d10_22) rfl ?_
            show Steps p.tables e below (s₁.setTop (mkF m 23 #[.val (.ref a1), .val (.ref a2), .val (.int i), .val (.int st), .val (.int bd), .unset] [(.int st), (.int i)])) _
            refine XS.iload X0.here hx rfl (hb hby d10_23) rfl ?_
            show Steps p.tables e below (s₁.setTop (mkF m 25 #[.val (.ref a1), .val (.ref a2), .val (.int i), .val (.int st), .val (.int bd), .unset] [(.int bd), (.int st), (.int i)])) _
            refine XS.iadd X0.here hx rfl (hb hby d10_25) rfl ?_
            show Steps p.tables e below (s₁.setTop (mkF m 26 #[.val (.ref a1), .val (.ref a2), .val (.int i), .val (.int st), .val (.int bd), .unset] [(.int (st + bd)), (.int i)])) _
            refine XS.iconst X0.here hx rfl (hb hby d10_26) ?_
            show Steps p.tables e below (s₁.setTop (mkF m 27 #[.val (.ref a1), .val (.ref a2), .val (.int i), .val (.int st), .val (.int bd), .unset] [(.int (1 : Int32)), (.int (st + bd)), (.int i)])) _
            refine XS.isub X0.here hx rfl (hb hby d10_27) rfl ?_
            show Steps p.tables e below (s₁.setTop (mkF m 28 #[.val (.ref a1), .val (.ref a2), .val (.int i), .val (.int st), .val (.int bd), .unset] [(.int ((st + bd) - (1 : Int32))), (.int i)])) _
            refine XS.icmpYes X0.here hx rfl (pc0 := 28) (pc' := 37) rfl (hb hby d10_28) rfl (feq (h3 : ¬ (i = ((st + bd) - (1 : Int32))))).2 (by decide) (by decide) ?_
            show Steps p.tables e below (s₁.setTop (mkF m 37 #[.val (.ref a1), .val (.ref a2), .val (.int i), .val (.int st), .val (.int bd), .unset] [])) _
            refine XS.aloadN X0.here hx rfl (hb hby d10_37) rfl rfl ?_
            show Steps p.tables e below (s₁.setTop (mkF m 38 #[.val (.ref a1), .val (.ref a2), .val (.int i), .val (.int st), .val (.int bd), .unset] [(.ref a1)])) _
            refine XS.iloadN X0.here hx rfl (hb hby d10_38) rfl ?_
            show Steps p.tables e below (s₁.setTop (mkF m 39 #[.val (.ref a1), .val (.ref a2), .val (.int i), .val (.int st), .val (.int bd), .unset] [(.int i), (.ref a1)])) _
            refine XS.iconst X0.here hx rfl (hb hby d10_39) ?_
            show Steps p.tables e below (s₁.setTop (mkF m 40 #[.val (.ref a1), .val (.ref a2), .val (.int i), .val (.int st), .val (.int bd), .unset] [(.int (1 : Int32)), (.int i), (.ref a1)])) _
            refine XS.iadd X0.here hx rfl (hb hby d10_40) rfl ?_
            show Steps p.tables e below (s₁.setTop (mkF m 41 #[.val (.ref a1), .val (.ref a2), .val (.int i), .val (.int st), .val (.int bd), .unset] [(.int (i + (1 : Int32))), (.ref a1)])) _
            refine X0.iaload hx (j := (i + (1 : Int32))) (v := (.int (xs.getD (i + (1 : Int32)).toNatClampNeg 0))) (by rw [e0]; exact Ar4.1) (State.isArrayOf_alike hZ.alike Ar4.2.1) Ar4.2.2 hin4 hat4 (g := (mkF m 41 #[.val (.ref a1), .val (.ref a2), .val (.int i), .val (.int st), .val (.int bd), .unset] [(.int (i + (1 : Int32))), (.ref a1)])) rfl rfl (hb hby d10_41) _ ?_
            show Steps p.tables e below (s₁.setTop (mkF m 42 #[.val (.ref a1), .val (.ref a2), .val (.int i), .val (.int st), .val (.int bd), .unset] [(.int (xs.getD (i + (1 : Int32)).toNatClampNeg 0))])) _
            refine XS.istore X0.here hx rfl (hb hby d10_42) rfl (l' := #[.val (.ref a1), .val (.ref a2), .val (.int i), .val (.int st), .val (.int bd), .val (.int (xs.getD (i + (1 : Int32)).toNatClampNeg 0))]) rfl ?_
            show Steps p.tables e below (s₁.setTop (mkF m 44 #[.val (.ref a1), .val (.ref a2), .val (.int i), .val (.int st), .val (.int bd), .val (.int (xs.getD (i + (1 : Int32)).toNatClampNeg 0))] [])) _
            refine XS.aloadN X0.here hx rfl (hb hby d10_44) rfl rfl ?_
            show Steps p.tables e below (s₁.setTop (mkF m 45 #[.val (.ref a1), .val (.ref a2), .val (.int i), .val (.int st), .val (.int bd), .val (.int (xs.getD (i + (1 : Int32)).toNatClampNeg 0))] [(.ref a2)])) _
            refine XS.iloadN X0.here hx rfl (hb hby d10_45) rfl ?_
            show Steps p.tables e below (s₁.setTop (mkF m 46 #[.val (.ref a1), .val (.ref a2), .val (.int i), .val (.int st), .val (.int bd), .val (.int (xs.getD (i + (1 : Int32)).toNatClampNeg 0))] [(.int i), (.ref a2)])) _
            refine X0.iaload hx (j := i) (v := (.int (ys.getD i.toNatClampNeg 0))) (by rw [e0]; exact Ar5.1) (State.isArrayOf_alike hZ.alike Ar5.2.1) Ar5.2.2 hin5 hat5 (g := (mkF m 46 #[.val (.ref a1), .val (.ref a2), .val (.int i), .val (.int st), .val (.int bd), .val (.int (xs.getD (i + (1 : Int32)).toNatClampNeg 0))] [(.int i), (.ref a2)])) rfl rfl (hb hby d10_46) _ ?_
            show Steps p.tables e below (s₁.setTop (mkF m 47 #[.val (.ref a1), .val (.ref a2), .val (.int i), .val (.int st), .val (.int bd), .val (.int (xs.getD (i + (1 : Int32)).toNatClampNeg 0))] [(.int (ys.getD i.toNatClampNeg 0))])) _
            refine XS.iload X0.here hx rfl (hb hby d10_47) rfl ?_
            show Steps p.tables e below (s₁.setTop (mkF m 49 #[.val (.ref a1), .val (.ref a2), .val (.int i), .val (.int st), .val (.int bd), .val (.int (xs.getD (i + (1 : Int32)).toNatClampNeg 0))] [(.int (xs.getD (i + (1 : Int32)).toNatClampNeg 0)), (.int (ys.getD i.toNatClampNeg 0))])) _
            refine XS.icmpNo X0.here hx rfl (hb hby d10_49) rfl (teq (hq : (ys.getD i.toNatClampNeg 0) = (xs.getD (i + (1 : Int32)).toNatClampNeg 0))).2 ?_
            show Steps p.tables e below (s₁.setTop (mkF m 52 #[.val (.ref a1), .val (.ref a2), .val (.int i), .val (.int st), .val (.int bd), .val (.int (xs.getD (i + (1 : Int32)).toNatClampNeg 0))] [])) _
            refine XS.iconst X0.here hx rfl (hb hby d10_52) ?_
            show Steps p.tables e below (s₁.setTop (mkF m 53 #[.val (.ref a1), .val (.ref a2), .val (.int i), .val (.int st), .val (.int bd), .val (.int (xs.getD (i + (1 : Int32)).toNatClampNeg 0))] [(.int (1 : Int32))])) _
            refine XS.goto X0.here hx rfl (pc0 := 53) (pc' := 57) rfl (hb hby d10_53) (by decide) (by decide) ?_
            show Steps p.tables e below (s₁.setTop (mkF m 57 #[.val (.ref a1), .val (.ref a2), .val (.int i), .val (.int st), .val (.int bd), .val (.int (xs.getD (i + (1 : Int32)).toNatClampNeg 0))] [(.int (1 : Int32))])) _
            exact retN X0 hx (t := .boolean) Bd.returns (by simp) (hb hby d10_57) hr
          · show Qown_mok Z a1 a2 i st bd k1 k2 xs ys h0 n0 _ s₁.heap _
            rw [e0]
            exact ⟨by unfold own_ok own_want; rw [if_neg h1, if_pos h2, if_neg h3, if_pos hq], N0, rfl⟩
        · obtain ⟨fs, hr, hrun, hended, hW, hsame⟩ := X0.leave (v := some (.int (0 : Int32))) (fun h => by rw [Bd.returns] at h; cases h)
          refine ⟨_, _, pre0 _ ?_, hrun, hended, _, _, rfl, ?_, ⟨_, rfl⟩, hW, hsame.mono (by decide) (by decide)⟩
          · show Steps p.tables e below (s₁.setTop (mkF m 0 #[.val (.ref a1), .val (.ref a2), .val (.int i), .val (.int st), .val (.int bd), .unset] [])) _
            refine XS.iloadN X0.here hx rfl (hb hby d10_0) rfl ?_
            show Steps p.tables e below (s₁.setTop (mkF m 1 #[.val (.ref a1), .val (.ref a2), .val (.int i), .val (.int st), .val (.int bd), .unset] [(.int i)])) _
            refine XS.iloadN X0.here hx rfl (hb hby d10_1) rfl ?_
            show Steps p.tables e below (s₁.setTop (mkF m 2 #[.val (.ref a1), .val (.ref a2), .val (.int i), .val (.int st), .val (.int bd), .unset] [(.int st), (.int i)])) _
            refine XS.icmpNo X0.here hx rfl (hb hby d10_2) rfl (flt (h1 : ¬ (i < st))).1 ?_
            show Steps p.tables e below (s₁.setTop (mkF m 5 #[.val (.ref a1), .val (.ref a2), .val (.int i), .val (.int st), .val (.int bd), .unset] [])) _
            refine XS.iloadN X0.here hx rfl (hb hby d10_5) rfl ?_
            show Steps p.tables e below (s₁.setTop (mkF m 6 #[.val (.ref a1), .val (.ref a2), .val (.int i), .val (.int st), .val (.int bd), .unset] [(.int i)])) _
            refine XS.iloadN X0.here hx rfl (hb hby d10_6) rfl ?_
            show Steps p.tables e below (s₁.setTop (mkF m 7 #[.val (.ref a1), .val (.ref a2), .val (.int i), .val (.int st), .val (.int bd), .unset] [(.int st), (.int i)])) _
            refine XS.iload X0.here hx rfl (hb hby d10_7) rfl ?_
            show Steps p.tables e below (s₁.setTop (mkF m 9 #[.val (.ref a1), .val (.ref a2), .val (.int i), .val (.int st), .val (.int bd), .unset] [(.int bd), (.int st), (.int i)])) _
            refine XS.iadd X0.here hx rfl (hb hby d10_9) rfl ?_
            show Steps p.tables e below (s₁.setTop (mkF m 10 #[.val (.ref a1), .val (.ref a2), .val (.int i), .val (.int st), .val (.int bd), .unset] [(.int (st + bd)), (.int i)])) _
            refine XS.icmpYes X0.here hx rfl (pc0 := 10) (pc' := 21) rfl (hb hby d10_10) rfl (tlt (h2 : i < (st + bd))).1 (by decide) (by decide) ?_
            show Steps p.tables e below (s₁.setTop (mkF m 21 #[.val (.ref a1), .val (.ref a2), .val (.int i), .val (.int st), .val (.int bd), .unset] [])) _
            refine XS.iloadN X0.here hx rfl (hb hby d10_21) rfl ?_
            show Steps p.tables e below (s₁.setTop (mkF m 22 #[.val (.ref a1), .val (.ref a2), .val (.int i), .val (.int st), .val (.int bd), .unset] [(.int i)])) _
            refine XS.iloadN X0.here hx rfl (hb hby d10_22) rfl ?_
            show Steps p.tables e below (s₁.setTop (mkF m 23 #[.val (.ref a1), .val (.ref a2), .val (.int i), .val (.int st), .val (.int bd), .unset] [(.int st), (.int i)])) _
            refine XS.iload X0.here hx rfl (hb hby d10_23) rfl ?_
            show Steps p.tables e below (s₁.setTop (mkF m 25 #[.val (.ref a1), .val (.ref a2), .val (.int i), .val (.int st), .val (.int bd), .unset] [(.int bd), (.int st), (.int i)])) _
            refine XS.iadd X0.here hx rfl (hb hby d10_25) rfl ?_
            show Steps p.tables e below (s₁.setTop (mkF m 26 #[.val (.ref a1), .val (.ref a2), .val (.int i), .val (.int st), .val (.int bd), .unset] [(.int (st + bd)), (.int i)])) _
            refine XS.iconst X0.here hx rfl (hb hby d10_26) ?_
            show Steps p.tables e below (s₁.setTop (mkF m 27 #[.val (.ref a1), .val (.ref a2), .val (.int i), .val (.int st), .val (.int bd), .unset] [(.int (1 : Int32)), (.int (st + bd)), (.int i)])) _
            refine XS.isub X0.here hx rfl (hb hby d10_27) rfl ?_
            show Steps p.tables e below (s₁.setTop (mkF m 28 #[.val (.ref a1), .val (.ref a2), .val (.int i), .val (.int st), .val (.int bd), .unset] [(.int ((st + bd) - (1 : Int32))), (.int i)])) _
            refine XS.icmpYes X0.here hx rfl (pc0 := 28) (pc' := 37) rfl (hb hby d10_28) rfl (feq (h3 : ¬ (i = ((st + bd) - (1 : Int32))))).2 (by decide) (by decide) ?_
            show Steps p.tables e below (s₁.setTop (mkF m 37 #[.val (.ref a1), .val (.ref a2), .val (.int i), .val (.int st), .val (.int bd), .unset] [])) _
            refine XS.aloadN X0.here hx rfl (hb hby d10_37) rfl rfl ?_
            show Steps p.tables e below (s₁.setTop (mkF m 38 #[.val (.ref a1), .val (.ref a2), .val (.int i), .val (.int st), .val (.int bd), .unset] [(.ref a1)])) _
            refine XS.iloadN X0.here hx rfl (hb hby d10_38) rfl ?_
            show Steps p.tables e below (s₁.setTop (mkF m 39 #[.val (.ref a1), .val (.ref a2), .val (.int i), .val (.int st), .val (.int bd), .unset] [(.int i), (.ref a1)])) _
            refine XS.iconst X0.here hx rfl (hb hby d10_39) ?_
            show Steps p.tables e below (s₁.setTop (mkF m 40 #[.val (.ref a1), .val (.ref a2), .val (.int i), .val (.int st), .val (.int bd), .unset] [(.int (1 : Int32)), (.int i), (.ref a1)])) _
            refine XS.iadd X0.here hx rfl (hb hby d10_40) rfl ?_
            show Steps p.tables e below (s₁.setTop (mkF m 41 #[.val (.ref a1), .val (.ref a2), .val (.int i), .val (.int st), .val (.int bd), .unset] [(.int (i + (1 : Int32))), (.ref a1)])) _
            refine X0.iaload hx (j := (i + (1 : Int32))) (v := (.int (xs.getD (i + (1 : Int32)).toNatClampNeg 0))) (by rw [e0]; exact Ar4.1) (State.isArrayOf_alike hZ.alike Ar4.2.1) Ar4.2.2 hin4 hat4 (g := (mkF m 41 #[.val (.ref a1), .val (.ref a2), .val (.int i), .val (.int st), .val (.int bd), .unset] [(.int (i + (1 : Int32))), (.ref a1)])) rfl rfl (hb hby d10_41) _ ?_
            show Steps p.tables e below (s₁.setTop (mkF m 42 #[.val (.ref a1), .val (.ref a2), .val (.int i), .val (.int st), .val (.int bd), .unset] [(.int (xs.getD (i + (1 : Int32)).toNatClampNeg 0))])) _
            refine XS.istore X0.here hx rfl (hb hby d10_42) rfl (l' := #[.val (.ref a1), .val (.ref a2), .val (.int i), .val (.int st), .val (.int bd), .val (.int (xs.getD (i + (1 : Int32)).toNatClampNeg 0))]) rfl ?_
            show Steps p.tables e below (s₁.setTop (mkF m 44 #[.val (.ref a1), .val (.ref a2), .val (.int i), .val (.int st), .val (.int bd), .val (.int (xs.getD (i + (1 : Int32)).toNatClampNeg 0))] [])) _
            refine XS.aloadN X0.here hx rfl (hb hby d10_44) rfl rfl ?_
            show Steps p.tables e below (s₁.setTop (mkF m 45 #[.val (.ref a1), .val (.ref a2), .val (.int i), .val (.int st), .val (.int bd), .val (.int (xs.getD (i + (1 : Int32)).toNatClampNeg 0))] [(.ref a2)])) _
            refine XS.iloadN X0.here hx rfl (hb hby d10_45) rfl ?_
            show Steps p.tables e below (s₁.setTop (mkF m 46 #[.val (.ref a1), .val (.ref a2), .val (.int i), .val (.int st), .val (.int bd), .val (.int (xs.getD (i + (1 : Int32)).toNatClampNeg 0))] [(.int i), (.ref a2)])) _
            refine X0.iaload hx (j := i) (v := (.int (ys.getD i.toNatClampNeg 0))) (by rw [e0]; exact Ar5.1) (State.isArrayOf_alike hZ.alike Ar5.2.1) Ar5.2.2 hin5 hat5 (g := (mkF m 46 #[.val (.ref a1), .val (.ref a2), .val (.int i), .val (.int st), .val (.int bd), .val (.int (xs.getD (i + (1 : Int32)).toNatClampNeg 0))] [(.int i), (.ref a2)])) rfl rfl (hb hby d10_46) _ ?_
            show Steps p.tables e below (s₁.setTop (mkF m 47 #[.val (.ref a1), .val (.ref a2), .val (.int i), .val (.int st), .val (.int bd), .val (.int (xs.getD (i + (1 : Int32)).toNatClampNeg 0))] [(.int (ys.getD i.toNatClampNeg 0))])) _
            refine XS.iload X0.here hx rfl (hb hby d10_47) rfl ?_
            show Steps p.tables e below (s₁.setTop (mkF m 49 #[.val (.ref a1), .val (.ref a2), .val (.int i), .val (.int st), .val (.int bd), .val (.int (xs.getD (i + (1 : Int32)).toNatClampNeg 0))] [(.int (xs.getD (i + (1 : Int32)).toNatClampNeg 0)), (.int (ys.getD i.toNatClampNeg 0))])) _
            refine XS.icmpYes X0.here hx rfl (pc0 := 49) (pc' := 56) rfl (hb hby d10_49) rfl (feq (hq : ¬ ((ys.getD i.toNatClampNeg 0) = (xs.getD (i + (1 : Int32)).toNatClampNeg 0)))).2 (by decide) (by decide) ?_
            show Steps p.tables e below (s₁.setTop (mkF m 56 #[.val (.ref a1), .val (.ref a2), .val (.int i), .val (.int st), .val (.int bd), .val (.int (xs.getD (i + (1 : Int32)).toNatClampNeg 0))] [])) _
            refine XS.iconst X0.here hx rfl (hb hby d10_56) ?_
            show Steps p.tables e below (s₁.setTop (mkF m 57 #[.val (.ref a1), .val (.ref a2), .val (.int i), .val (.int st), .val (.int bd), .val (.int (xs.getD (i + (1 : Int32)).toNatClampNeg 0))] [(.int (0 : Int32))])) _
            exact retN X0 hx (t := .boolean) Bd.returns (by simp) (hb hby d10_57) hr
          · show Qown_mok Z a1 a2 i st bd k1 k2 xs ys h0 n0 _ s₁.heap _
            rw [e0]
            exact ⟨by unfold own_ok own_want; rw [if_neg h1, if_pos h2, if_neg h3, if_neg hq], N0, rfl⟩
    · obtain ⟨cl6, Ar6, qc6, S6, Nn6, H6, G6⟩ := id V1
      have hin6 : ¬ (i < 0 ∨ cl6.slots.size ≤ (i).toNatClampNeg) := inb_of S6 hi
      have hat6 : cl6.slots[(i).toNatClampNeg]? = some (.int (xs.getD i.toNatClampNeg 0)) := H6.at hin6 (own_getD _ _)
      obtain ⟨cl7, Ar7, qc7, S7, Nn7, H7, G7⟩ := id V2
      have hin7 : ¬ (i < 0 ∨ cl7.slots.size ≤ (i).toNatClampNeg) := inb_of S7 hi
      have hat7 : cl7.slots[(i).toNatClampNeg]? = some (.int (ys.getD i.toNatClampNeg 0)) := H7.at hin7 (own_getD _ _)
      by_cases hq : ys.getD i.toNatClampNeg 0 = (xs.getD i.toNatClampNeg 0)
      · obtain ⟨fs, hr, hrun, hended, hW, hsame⟩ := X0.leave (v := some (.int (1 : Int32))) (fun h => by rw [Bd.returns] at h; cases h)
        refine ⟨_, _, pre0 _ ?_, hrun, hended, _, _, rfl, ?_, ⟨_, rfl⟩, hW, hsame.mono (by decide) (by decide)⟩
        · show Steps p.tables e below (s₁.setTop (mkF m 0 #[.val (.ref a1), .val (.ref a2), .val (.int i), .val (.int st), .val (.int bd), .unset] [])) _
          refine XS.iloadN X0.here hx rfl (hb hby d10_0) rfl ?_
          show Steps p.tables e below (s₁.setTop (mkF m 1 #[.val (.ref a1), .val (.ref a2), .val (.int i), .val (.int st), .val (.int bd), .unset] [(.int i)])) _
          refine XS.iloadN X0.here hx rfl (hb hby d10_1) rfl ?_
          show Steps p.tables e below (s₁.setTop (mkF m 2 #[.val (.ref a1), .val (.ref a2), .val (.int i), .val (.int st), .val (.int bd), .unset] [(.int st), (.int i)])) _
          refine XS.icmpNo X0.here hx rfl (hb hby d10_2) rfl (flt (h1 : ¬ (i < st))).1 ?_
          show Steps p.tables e below (s₁.setTop (mkF m 5 #[.val (.ref a1), .val (.ref a2), .val (.int i), .val (.int st), .val (.int bd), .unset] [])) _
          refine XS.iloadN X0.here hx rfl (hb hby d10_5) rfl ?_
          show Steps p.tables e below (s₁.setTop (mkF m 6 #[.val (.ref a1), .val (.ref a2), .val (.int i), .val (.int st), .val (.int bd), .unset] [(.int i)])) _
          refine XS.iloadN X0.here hx rfl (hb hby d10_6) rfl ?_
          show Steps p.tables e below (s₁.setTop (mkF m 7 #[.val (.ref a1), .val (.ref a2), .val (.int i), .val (.int st), .val (.int bd), .unset] [(.int st), (.int i)])) _
          refine XS.iload X0.here hx rfl (hb hby d10_7) rfl ?_
          show Steps p.tables e below (s₁.setTop (mkF m 9 #[.val (.ref a1), .val (.ref a2), .val (.int i), .val (.int st), .val (.int bd), .unset] [(.int bd), (.int st), (.int i)])) _
          refine XS.iadd X0.here hx rfl (hb hby d10_9) rfl ?_
          show Steps p.tables e below (s₁.setTop (mkF m 10 #[.val (.ref a1), .val (.ref a2), .val (.int i), .val (.int st), .val (.int bd), .unset] [(.int (st + bd)), (.int i)])) _
          refine XS.icmpNo X0.here hx rfl (hb hby d10_10) rfl (flt (h2 : ¬ (i < (st + bd)))).1 ?_
          show Steps p.tables e below (s₁.setTop (mkF m 13 #[.val (.ref a1), .val (.ref a2), .val (.int i), .val (.int st), .val (.int bd), .unset] [])) _
          refine XS.aloadN X0.here hx rfl (hb hby d10_13) rfl rfl ?_
          show Steps p.tables e below (s₁.setTop (mkF m 14 #[.val (.ref a1), .val (.ref a2), .val (.int i), .val (.int st), .val (.int bd), .unset] [(.ref a1)])) _
          refine XS.iloadN X0.here hx rfl (hb hby d10_14) rfl ?_
          show Steps p.tables e below (s₁.setTop (mkF m 15 #[.val (.ref a1), .val (.ref a2), .val (.int i), .val (.int st), .val (.int bd), .unset] [(.int i), (.ref a1)])) _
          refine X0.iaload hx (j := i) (v := (.int (xs.getD i.toNatClampNeg 0))) (by rw [e0]; exact Ar6.1) (State.isArrayOf_alike hZ.alike Ar6.2.1) Ar6.2.2 hin6 hat6 (g := (mkF m 15 #[.val (.ref a1), .val (.ref a2), .val (.int i), .val (.int st), .val (.int bd), .unset] [(.int i), (.ref a1)])) rfl rfl (hb hby d10_15) _ ?_
          show Steps p.tables e below (s₁.setTop (mkF m 16 #[.val (.ref a1), .val (.ref a2), .val (.int i), .val (.int st), .val (.int bd), .unset] [(.int (xs.getD i.toNatClampNeg 0))])) _
          refine XS.istore X0.here hx rfl (hb hby d10_16) rfl (l' := #[.val (.ref a1), .val (.ref a2), .val (.int i), .val (.int st), .val (.int bd), .val (.int (xs.getD i.toNatClampNeg 0))]) rfl ?_
          show Steps p.tables e below (s₁.setTop (mkF m 18 #[.val (.ref a1), .val (.ref a2), .val (.int i), .val (.int st), .val (.int bd), .val (.int (xs.getD i.toNatClampNeg 0))] [])) _
          refine XS.goto X0.here hx rfl (pc0 := 18) (pc' := 44) rfl (hb hby d10_18) (by decide) (by decide) ?_
          show Steps p.tables e below (s₁.setTop (mkF m 44 #[.val (.ref a1), .val (.ref a2), .val (.int i), .val (.int st), .val (.int bd), .val (.int (xs.getD i.toNatClampNeg 0))] [])) _
          refine XS.aloadN X0.here hx rfl (hb hby d10_44) rfl rfl ?_
          show Steps p.tables e below (s₁.setTop (mkF m 45 #[.val (.ref a1), .val (.ref a2), .val (.int i), .val (.int st), .val (.int bd), .val (.int (xs.getD i.toNatClampNeg 0))] [(.ref a2)])) _
          refine XS.iloadN X0.here hx rfl (hb hby d10_45) rfl ?_
          show Steps p.tables e below (s₁.setTop (mkF m 46 #[.val (.ref a1), .val (.ref a2), .val (.int i), .val (.int st), .val (.int bd), .val (.int (xs.getD i.toNatClampNeg 0))] [(.int i), (.ref a2)])) _
          refine X0.iaload hx (j := i) (v := (.int (ys.getD i.toNatClampNeg 0))) (by rw [e0]; exact Ar7.1) (State.isArrayOf_alike hZ.alike Ar7.2.1) Ar7.2.2 hin7 hat7 (g := (mkF m 46 #[.val (.ref a1), .val (.ref a2), .val (.int i), .val (.int st), .val (.int bd), .val (.int (xs.getD i.toNatClampNeg 0))] [(.int i), (.ref a2)])) rfl rfl (hb hby d10_46) _ ?_
          show Steps p.tables e below (s₁.setTop (mkF m 47 #[.val (.ref a1), .val (.ref a2), .val (.int i), .val (.int st), .val (.int bd), .val (.int (xs.getD i.toNatClampNeg 0))] [(.int (ys.getD i.toNatClampNeg 0))])) _
          refine XS.iload X0.here hx rfl (hb hby d10_47) rfl ?_
          show Steps p.tables e below (s₁.setTop (mkF m 49 #[.val (.ref a1), .val (.ref a2), .val (.int i), .val (.int st), .val (.int bd), .val (.int (xs.getD i.toNatClampNeg 0))] [(.int (xs.getD i.toNatClampNeg 0)), (.int (ys.getD i.toNatClampNeg 0))])) _
          refine XS.icmpNo X0.here hx rfl (hb hby d10_49) rfl (teq (hq : (ys.getD i.toNatClampNeg 0) = (xs.getD i.toNatClampNeg 0))).2 ?_
          show Steps p.tables e below (s₁.setTop (mkF m 52 #[.val (.ref a1), .val (.ref a2), .val (.int i), .val (.int st), .val (.int bd), .val (.int (xs.getD i.toNatClampNeg 0))] [])) _
          refine XS.iconst X0.here hx rfl (hb hby d10_52) ?_
          show Steps p.tables e below (s₁.setTop (mkF m 53 #[.val (.ref a1), .val (.ref a2), .val (.int i), .val (.int st), .val (.int bd), .val (.int (xs.getD i.toNatClampNeg 0))] [(.int (1 : Int32))])) _
          refine XS.goto X0.here hx rfl (pc0 := 53) (pc' := 57) rfl (hb hby d10_53) (by decide) (by decide) ?_
          show Steps p.tables e below (s₁.setTop (mkF m 57 #[.val (.ref a1), .val (.ref a2), .val (.int i), .val (.int st), .val (.int bd), .val (.int (xs.getD i.toNatClampNeg 0))] [(.int (1 : Int32))])) _
          exact retN X0 hx (t := .boolean) Bd.returns (by simp) (hb hby d10_57) hr
        · show Qown_mok Z a1 a2 i st bd k1 k2 xs ys h0 n0 _ s₁.heap _
          rw [e0]
          exact ⟨by unfold own_ok own_want; rw [if_neg h1, if_neg h2, if_pos hq], N0, rfl⟩
      · obtain ⟨fs, hr, hrun, hended, hW, hsame⟩ := X0.leave (v := some (.int (0 : Int32))) (fun h => by rw [Bd.returns] at h; cases h)
        refine ⟨_, _, pre0 _ ?_, hrun, hended, _, _, rfl, ?_, ⟨_, rfl⟩, hW, hsame.mono (by decide) (by decide)⟩
        · show Steps p.tables e below (s₁.setTop (mkF m 0 #[.val (.ref a1), .val (.ref a2), .val (.int i), .val (.int st), .val (.int bd), .unset] [])) _
          refine XS.iloadN X0.here hx rfl (hb hby d10_0) rfl ?_
          show Steps p.tables e below (s₁.setTop (mkF m 1 #[.val (.ref a1), .val (.ref a2), .val (.int i), .val (.int st), .val (.int bd), .unset] [(.int i)])) _
          refine XS.iloadN X0.here hx rfl (hb hby d10_1) rfl ?_
          show Steps p.tables e below (s₁.setTop (mkF m 2 #[.val (.ref a1), .val (.ref a2), .val (.int i), .val (.int st), .val (.int bd), .unset] [(.int st), (.int i)])) _
          refine XS.icmpNo X0.here hx rfl (hb hby d10_2) rfl (flt (h1 : ¬ (i < st))).1 ?_
          show Steps p.tables e below (s₁.setTop (mkF m 5 #[.val (.ref a1), .val (.ref a2), .val (.int i), .val (.int st), .val (.int bd), .unset] [])) _
          refine XS.iloadN X0.here hx rfl (hb hby d10_5) rfl ?_
          show Steps p.tables e below (s₁.setTop (mkF m 6 #[.val (.ref a1), .val (.ref a2), .val (.int i), .val (.int st), .val (.int bd), .unset] [(.int i)])) _
          refine XS.iloadN X0.here hx rfl (hb hby d10_6) rfl ?_
          show Steps p.tables e below (s₁.setTop (mkF m 7 #[.val (.ref a1), .val (.ref a2), .val (.int i), .val (.int st), .val (.int bd), .unset] [(.int st), (.int i)])) _
          refine XS.iload X0.here hx rfl (hb hby d10_7) rfl ?_
          show Steps p.tables e below (s₁.setTop (mkF m 9 #[.val (.ref a1), .val (.ref a2), .val (.int i), .val (.int st), .val (.int bd), .unset] [(.int bd), (.int st), (.int i)])) _
          refine XS.iadd X0.here hx rfl (hb hby d10_9) rfl ?_
          show Steps p.tables e below (s₁.setTop (mkF m 10 #[.val (.ref a1), .val (.ref a2), .val (.int i), .val (.int st), .val (.int bd), .unset] [(.int (st + bd)), (.int i)])) _
          refine XS.icmpNo X0.here hx rfl (hb hby d10_10) rfl (flt (h2 : ¬ (i < (st + bd)))).1 ?_
          show Steps p.tables e below (s₁.setTop (mkF m 13 #[.val (.ref a1), .val (.ref a2), .val (.int i), .val (.int st), .val (.int bd), .unset] [])) _
          refine XS.aloadN X0.here hx rfl (hb hby d10_13) rfl rfl ?_
          show Steps p.tables e below (s₁.setTop (mkF m 14 #[.val (.ref a1), .val (.ref a2), .val (.int i), .val (.int st), .val (.int bd), .unset] [(.ref a1)])) _
          refine XS.iloadN X0.here hx rfl (hb hby d10_14) rfl ?_
          show Steps p.tables e below (s₁.setTop (mkF m 15 #[.val (.ref a1), .val (.ref a2), .val (.int i), .val (.int st), .val (.int bd), .unset] [(.int i), (.ref a1)])) _
          refine X0.iaload hx (j := i) (v := (.int (xs.getD i.toNatClampNeg 0))) (by rw [e0]; exact Ar6.1) (State.isArrayOf_alike hZ.alike Ar6.2.1) Ar6.2.2 hin6 hat6 (g := (mkF m 15 #[.val (.ref a1), .val (.ref a2), .val (.int i), .val (.int st), .val (.int bd), .unset] [(.int i), (.ref a1)])) rfl rfl (hb hby d10_15) _ ?_
          show Steps p.tables e below (s₁.setTop (mkF m 16 #[.val (.ref a1), .val (.ref a2), .val (.int i), .val (.int st), .val (.int bd), .unset] [(.int (xs.getD i.toNatClampNeg 0))])) _
          refine XS.istore X0.here hx rfl (hb hby d10_16) rfl (l' := #[.val (.ref a1), .val (.ref a2), .val (.int i), .val (.int st), .val (.int bd), .val (.int (xs.getD i.toNatClampNeg 0))]) rfl ?_
          show Steps p.tables e below (s₁.setTop (mkF m 18 #[.val (.ref a1), .val (.ref a2), .val (.int i), .val (.int st), .val (.int bd), .val (.int (xs.getD i.toNatClampNeg 0))] [])) _
          refine XS.goto X0.here hx rfl (pc0 := 18) (pc' := 44) rfl (hb hby d10_18) (by decide) (by decide) ?_
          show Steps p.tables e below (s₁.setTop (mkF m 44 #[.val (.ref a1), .val (.ref a2), .val (.int i), .val (.int st), .val (.int bd), .val (.int (xs.getD i.toNatClampNeg 0))] [])) _
          refine XS.aloadN X0.here hx rfl (hb hby d10_44) rfl rfl ?_
          show Steps p.tables e below (s₁.setTop (mkF m 45 #[.val (.ref a1), .val (.ref a2), .val (.int i), .val (.int st), .val (.int bd), .val (.int (xs.getD i.toNatClampNeg 0))] [(.ref a2)])) _
          refine XS.iloadN X0.here hx rfl (hb hby d10_45) rfl ?_
          show Steps p.tables e below (s₁.setTop (mkF m 46 #[.val (.ref a1), .val (.ref a2), .val (.int i), .val (.int st), .val (.int bd), .val (.int (xs.getD i.toNatClampNeg 0))] [(.int i), (.ref a2)])) _
          refine X0.iaload hx (j := i) (v := (.int (ys.getD i.toNatClampNeg 0))) (by rw [e0]; exact Ar7.1) (State.isArrayOf_alike hZ.alike Ar7.2.1) Ar7.2.2 hin7 hat7 (g := (mkF m 46 #[.val (.ref a1), .val (.ref a2), .val (.int i), .val (.int st), .val (.int bd), .val (.int (xs.getD i.toNatClampNeg 0))] [(.int i), (.ref a2)])) rfl rfl (hb hby d10_46) _ ?_
          show Steps p.tables e below (s₁.setTop (mkF m 47 #[.val (.ref a1), .val (.ref a2), .val (.int i), .val (.int st), .val (.int bd), .val (.int (xs.getD i.toNatClampNeg 0))] [(.int (ys.getD i.toNatClampNeg 0))])) _
          refine XS.iload X0.here hx rfl (hb hby d10_47) rfl ?_
          show Steps p.tables e below (s₁.setTop (mkF m 49 #[.val (.ref a1), .val (.ref a2), .val (.int i), .val (.int st), .val (.int bd), .val (.int (xs.getD i.toNatClampNeg 0))] [(.int (xs.getD i.toNatClampNeg 0)), (.int (ys.getD i.toNatClampNeg 0))])) _
          refine XS.icmpYes X0.here hx rfl (pc0 := 49) (pc' := 56) rfl (hb hby d10_49) rfl (feq (hq : ¬ ((ys.getD i.toNatClampNeg 0) = (xs.getD i.toNatClampNeg 0)))).2 (by decide) (by decide) ?_
          show Steps p.tables e below (s₁.setTop (mkF m 56 #[.val (.ref a1), .val (.ref a2), .val (.int i), .val (.int st), .val (.int bd), .val (.int (xs.getD i.toNatClampNeg 0))] [])) _
          refine XS.iconst X0.here hx rfl (hb hby d10_56) ?_
          show Steps p.tables e below (s₁.setTop (mkF m 57 #[.val (.ref a1), .val (.ref a2), .val (.int i), .val (.int st), .val (.int bd), .val (.int (xs.getD i.toNatClampNeg 0))] [(.int (0 : Int32))])) _
          exact retN X0 hx (t := .boolean) Bd.returns (by simp) (hb hby d10_57) hr
        · show Qown_mok Z a1 a2 i st bd k1 k2 xs ys h0 n0 _ s₁.heap _
          rw [e0]
          exact ⟨by unfold own_ok own_want; rw [if_neg h1, if_neg h2, if_neg hq], N0, rfl⟩
theorem own_tk_map (x0 x1 x2 x3 x4 x5 x6 x7 : Int32) {b f u : Int32} (h : own_P b f u) : ∃ ys : List Int32, own_tkv [(.int x0), (.int x1), (.int x2), (.int x3), (.int x4), (.int x5), (.int x6), (.int x7)] f u b = ys.map Value.int ∧ (∀ i : Int32, (i = (0 : Int32) ∨ i = (1 : Int32) ∨ i = (2 : Int32) ∨ i = (3 : Int32) ∨ i = (4 : Int32) ∨ i = (5 : Int32) ∨ i = (6 : Int32) ∨ i = (7 : Int32)) → own_ok [x0, x1, x2, x3, x4, x5, x6, x7] ys i (f + (u * b)) b = 1) := by
  obtain ⟨h1 | h1 | h1, h2 | h2 | h2, h3 | h3⟩ := h <;> subst h1 h2 h3 <;>
  first
  | exact ⟨[0, x1, x2, x3, x4, x5, x6, x7], rfl, fun i hi => by rcases hi with rfl | rfl | rfl | rfl | rfl | rfl | rfl | rfl <;> exact if_pos rfl⟩
  | exact ⟨[x0, 0, x2, x3, x4, x5, x6, x7], rfl, fun i hi => by rcases hi with rfl | rfl | rfl | rfl | rfl | rfl | rfl | rfl <;> exact if_pos rfl⟩
  | exact ⟨[x0, x1, 0, x3, x4, x5, x6, x7], rfl, fun i hi => by rcases hi with rfl | rfl | rfl | rfl | rfl | rfl | rfl | rfl <;> exact if_pos rfl⟩
  | exact ⟨[x0, x1, x2, 0, x4, x5, x6, x7], rfl, fun i hi => by rcases hi with rfl | rfl | rfl | rfl | rfl | rfl | rfl | rfl <;> exact if_pos rfl⟩
  | exact ⟨[x1, 0, x2, x3, x4, x5, x6, x7], rfl, fun i hi => by rcases hi with rfl | rfl | rfl | rfl | rfl | rfl | rfl | rfl <;> exact if_pos rfl⟩
  | exact ⟨[x0, x2, 0, x3, x4, x5, x6, x7], rfl, fun i hi => by rcases hi with rfl | rfl | rfl | rfl | rfl | rfl | rfl | rfl <;> exact if_pos rfl⟩
  | exact ⟨[x0, x1, x3, 0, x4, x5, x6, x7], rfl, fun i hi => by rcases hi with rfl | rfl | rfl | rfl | rfl | rfl | rfl | rfl <;> exact if_pos rfl⟩
  | exact ⟨[x0, x1, x2, x4, 0, x5, x6, x7], rfl, fun i hi => by rcases hi with rfl | rfl | rfl | rfl | rfl | rfl | rfl | rfl <;> exact if_pos rfl⟩
  | exact ⟨[x0, x1, x2, x3, x5, 0, x6, x7], rfl, fun i hi => by rcases hi with rfl | rfl | rfl | rfl | rfl | rfl | rfl | rfl <;> exact if_pos rfl⟩
  | exact ⟨[x1, x2, 0, x3, x4, x5, x6, x7], rfl, fun i hi => by rcases hi with rfl | rfl | rfl | rfl | rfl | rfl | rfl | rfl <;> exact if_pos rfl⟩
  | exact ⟨[x0, x2, x3, 0, x4, x5, x6, x7], rfl, fun i hi => by rcases hi with rfl | rfl | rfl | rfl | rfl | rfl | rfl | rfl <;> exact if_pos rfl⟩
  | exact ⟨[x0, x1, x3, x4, 0, x5, x6, x7], rfl, fun i hi => by rcases hi with rfl | rfl | rfl | rfl | rfl | rfl | rfl | rfl <;> exact if_pos rfl⟩
  | exact ⟨[x0, x1, x2, x4, x5, 0, x6, x7], rfl, fun i hi => by rcases hi with rfl | rfl | rfl | rfl | rfl | rfl | rfl | rfl <;> exact if_pos rfl⟩
  | exact ⟨[x0, x1, x2, x3, x5, x6, 0, x7], rfl, fun i hi => by rcases hi with rfl | rfl | rfl | rfl | rfl | rfl | rfl | rfl <;> exact if_pos rfl⟩
  | exact ⟨[x0, x1, x2, x3, x4, x6, x7, 0], rfl, fun i hi => by rcases hi with rfl | rfl | rfl | rfl | rfl | rfl | rfl | rfl <;> exact if_pos rfl⟩
theorem own_jn {b f u i : Int32} (h : own_P b f u) (hi : i = (0 : Int32) ∨ i = (1 : Int32) ∨ i = (2 : Int32) ∨ i = (3 : Int32) ∨ i = (4 : Int32) ∨ i = (5 : Int32) ∨ i = (6 : Int32) ∨ i = (7 : Int32)) : ¬ (i < (f + (u * b))) → i < ((f + (u * b)) + b) → ¬ (i = (((f + (u * b)) + b) - (1 : Int32))) → ¬ (i + (1 : Int32)) < 0 ∧ (i + (1 : Int32)) < (8 : Int32) := by
  obtain ⟨h1 | h1 | h1, h2 | h2 | h2, h3 | h3⟩ := h <;> subst h1 h2 h3 <;> rcases hi with rfl | rfl | rfl | rfl | rfl | rfl | rfl | rfl <;> decide
theorem pd__I_V : parseMethodDescriptor "(I)V" = some ⟨[.int], none⟩ := by decide +kernel
theorem pd___II__I : parseMethodDescriptor "([II)[I" = some ⟨[(.array .int), .int], some (.array .int)⟩ := by decide +kernel
theorem pd___I_IIII_Z : parseMethodDescriptor "([I[IIII)Z" = some ⟨[(.array .int), (.array .int), .int, .int, .int], some .boolean⟩ := by decide +kernel
theorem ef_own_law (m : MethodId) (x0 : Int32) (x1 : Int64) (x2 : Int64) (x3 : Int64) (x4 : Int32) (x5 : Int32) : entryFrame m #[(.int x0), (.long x1), (.long x2), (.long x3), (.int x4), (.int x5)] maxLocals = mkF m 0 #[.val (.int x0), .val (.long x1), .second, .val (.long x2), .second, .val (.long x3), .second, .val (.int x4), .val (.int x5), .unset, .unset, .unset, .unset, .unset, .unset, .unset, .unset] [] := by first | (simp [entryFrame, mkF, argsToLocals, Value.category, maxLocals]; done) | rfl
def Qown_law (Z : State) (p1 : Int32) (q2 : Int64) (q3 : Int64) (q4 : Int64) (p5 : Int32) (p6 : Int32) (d1 : Addr) (h0 : Heap) (n0 : Nat) (v : Option Value) (h : Heap) (L : List Loc) : Prop := v = some (.int (1 : Int32)) ∧ Fr n0 L
set_option maxRecDepth 65536 in
set_option maxHeartbeats 40000000 in
theorem own_law (l : Launch) (Z : State) (a0 : Array Value) (hw : ∀ d ∈ tables_1, d.before a0 Z = true) (ws : List Jvm.Cond) (p1 : Int32) (q2 : Int64) (q3 : Int64) (q4 : Int64) (p5 : Int32) (p6 : Int32) (d1 : Addr) (h0 : Heap) (n0 : Nat) (Z0 : n0 ≤ h0.size) (S1 : Sta Z h0 "java/util/ArrayList" "DEFAULTCAPACITY_EMPTY_ELEMENTDATA" "[Ljava/lang/Object;" (.ref d1)) :
    MetFree l x (head1 (Jvm.Cond.code x code maxLocals ret :: ws) room_1) (fun a U => a = #[(.int p1), (.long q2), (.long q3), (.long q4), (.int p5), (.int p6)] ∧ Z.Warmed39 U.vm ∧ U.heap = h0) (fun _ _ _ _ _ => True) (fun _ U o U' => ∃ v L, o = .returned v ∧ Qown_law Z p1 q2 q3 q4 p5 p6 d1 h0 n0 v U'.heap L ∧ FrameEnd U o U' L room_1.cells room_1.slots) := by
  refine MetFree.of_bodySF (plainFor_of_name pn_com_example_orbweaver_orbweaver_engine_BuffersTakePinLaw) hisR ?_
  intro p e s m args below meth c s₁ Bd hml0 hP hK
  obtain ⟨rfl, hZ, hh⟩ := hP
  have hx := Bd.exec
  have hby := Bd.bytes
  have hml : c.maxLocals = 17 := hml0
  have hown : s.vm.findClass "com/example/orbweaver/orbweaver/engine/BuffersTakePinLaw" = some m.cls := findClass_of_methodNamed Bd.named
  have hnm := (name_of_methodNamed Bd.named Bd.method).1
  have X0 : Stand p l e room_1 s m #[(.int p1), (.long q2), (.long q3), (.long q4), (.int p5), (.int p6)] below meth c s₁ [] 0 0 := Stand.of_body Bd
  have e0 : s₁.heap = h0 := by rw [← hh, Bd.state]; rfl
  have N0 := Fr.nil n0
  have pre0 : ∀ t, Steps p.tables e below (s₁.setTop (mkF m 0 #[.val (.int p1), .val (.long q2), .second, .val (.long q3), .second, .val (.long q4), .second, .val (.int p5), .val (.int p6), .unset, .unset, .unset, .unset, .unset, .unset, .unset, .unset] [])) t → Steps p.tables e below (s₁.setTop (entryFrame m #[(.int p1), (.long q2), (.long q3), (.long q4), (.int p5), (.int p6)] maxLocals)) t := fun t k => castTop (ef_own_law m (p1) (q2) (q3) (q4) (p5) (p6)) k
  obtain ⟨T1, h1, k1, X1, e1, E1, A1, st1⟩ := newP X0 hx hZ (hw _ (List.mem_of_getElem? (i := 0) rfl)) e0 (g := (mkF m 27 #[.val (.int p1), .val (.long q2), .second, .val (.long q3), .second, .val (.long q4), .second, .val (.int p5), .val (.int p6), .val (.int (own_bd p1)), .val (.int (own_fs p1)), .val (.int (own_bf p1)), .unset, .unset, .unset, .unset, .unset] [(.int (8 : Int32))])) rfl (hb hby at_27) rfl (by decide) (cap := 8) (by decide) (by decide) (by decide) (by decide)
  obtain ⟨b1, g1⟩ : ∃ z, z = h0.size := ⟨_, rfl⟩
  rw [← g1] at A1 st1
  have V1 : Arv Z h1 b1 k1 .int (8 : Int32) [(.int (0 : Int32)), (.int (0 : Int32)), (.int (0 : Int32)), (.int (0 : Int32)), (.int (0 : Int32)), (.int (0 : Int32)), (.int (0 : Int32)), (.int (0 : Int32))] (.int (0 : Int32)) := (Arv.new A1 (by decide)).pad (pad_rep [] (.int (0 : Int32)) 8)
  have g_b1 : n0 ≤ b1 := Nat.le_trans Z0 (Nat.le_of_eq g1.symm)
  have sz_b1 : h0.size ≤ b1 := Nat.le_trans (Keep.refl h0 []).1 (Nat.le_of_eq g1.symm)
  have Z1 : n0 ≤ h1.size := Nat.le_trans Z0 E1.1
  have K1 : Keep h0 h1 [] := (Keep.refl h0 []).ext E1
  obtain ⟨cl2, Ar2, qc2, S2, Nn2, H2, G2⟩ := id V1
  have hin2 : ¬ ((0 : Int32) < 0 ∨ cl2.slots.size ≤ ((0 : Int32)).toNatClampNeg) := inb_of S2 ⟨by decide, by decide⟩
  obtain ⟨T3, h3, X3, e3, W3, st3⟩ := stI X1 hx hZ e1 Ar2 (j := (0 : Int32)) hin2 (g := (mkF m 36 #[.val (.int p1), .val (.long q2), .second, .val (.long q3), .second, .val (.long q4), .second, .val (.int p5), .val (.int p6), .val (.int (own_bd p1)), .val (.int (own_fs p1)), .val (.int (own_bf p1)), .val (.ref b1), .unset, .unset, .unset, .unset] [(.int (q2.toInt32)), (.int (0 : Int32)), (.ref b1)])) rfl rfl (hb hby at_36)
  have V3 : Arv Z h3 b1 k1 .int (8 : Int32) [(.int (q2.toInt32)), (.int (0 : Int32)), (.int (0 : Int32)), (.int (0 : Int32)), (.int (0 : Int32)), (.int (0 : Int32)), (.int (0 : Int32)), (.int (0 : Int32))] (.int (0 : Int32)) := Arv.set Ar2 qc2 S2 Nn2 H2 G2 rfl W3 0 rfl (Nat.le_of_ble_eq_true rfl)
  have K3 : Keep h0 h3 [] := K1.wr W3 (Or.inr sz_b1)
  have N3 := Fr.snoc X3 N0 g_b1
  have Z3 : n0 ≤ h3.size := Nat.le_trans Z1 (Keep.of_wr W3).1
  obtain ⟨cl4, Ar4, qc4, S4, Nn4, H4, G4⟩ := id V3
  have hin4 : ¬ ((1 : Int32) < 0 ∨ cl4.slots.size ≤ ((1 : Int32)).toNatClampNeg) := inb_of S4 ⟨by decide, by decide⟩
  obtain ⟨T5, h5, X5, e5, W5, st5⟩ := stI X3 hx hZ e3 Ar4 (j := (1 : Int32)) hin4 (g := (mkF m 45 #[.val (.int p1), .val (.long q2), .second, .val (.long q3), .second, .val (.long q4), .second, .val (.int p5), .val (.int p6), .val (.int (own_bd p1)), .val (.int (own_fs p1)), .val (.int (own_bf p1)), .val (.ref b1), .unset, .unset, .unset, .unset] [(.int (((q2.toUInt64 >>> ((32 : Int32) &&& 0x3f).toInt64.toUInt64).toInt64).toInt32)), (.int (1 : Int32)), (.ref b1)])) rfl rfl (hb hby at_45)
  have V5 : Arv Z h5 b1 k1 .int (8 : Int32) [(.int (q2.toInt32)), (.int (((q2.toUInt64 >>> ((32 : Int32) &&& 0x3f).toInt64.toUInt64).toInt64).toInt32)), (.int (0 : Int32)), (.int (0 : Int32)), (.int (0 : Int32)), (.int (0 : Int32)), (.int (0 : Int32)), (.int (0 : Int32))] (.int (0 : Int32)) := Arv.set Ar4 qc4 S4 Nn4 H4 G4 rfl W5 1 rfl (Nat.le_of_ble_eq_true rfl)
  have K5 : Keep h0 h5 [] := K3.wr W5 (Or.inr sz_b1)
  have N5 := Fr.snoc X5 N3 g_b1
  have Z5 : n0 ≤ h5.size := Nat.le_trans Z3 (Keep.of_wr W5).1
  obtain ⟨cl6, Ar6, qc6, S6, Nn6, H6, G6⟩ := id V5
  have hin6 : ¬ ((2 : Int32) < 0 ∨ cl6.slots.size ≤ ((2 : Int32)).toNatClampNeg) := inb_of S6 ⟨by decide, by decide⟩
  obtain ⟨T7, h7, X7, e7, W7, st7⟩ := stI X5 hx hZ e5 Ar6 (j := (2 : Int32)) hin6 (g := (mkF m 51 #[.val (.int p1), .val (.long q2), .second, .val (.long q3), .second, .val (.long q4), .second, .val (.int p5), .val (.int p6), .val (.int (own_bd p1)), .val (.int (own_fs p1)), .val (.int (own_bf p1)), .val (.ref b1), .unset, .unset, .unset, .unset] [(.int (q3.toInt32)), (.int (2 : Int32)), (.ref b1)])) rfl rfl (hb hby at_51)
  have V7 : Arv Z h7 b1 k1 .int (8 : Int32) [(.int (q2.toInt32)), (.int (((q2.toUInt64 >>> ((32 : Int32) &&& 0x3f).toInt64.toUInt64).toInt64).toInt32)), (.int (q3.toInt32)), (.int (0 : Int32)), (.int (0 : Int32)), (.int (0 : Int32)), (.int (0 : Int32)), (.int (0 : Int32))] (.int (0 : Int32)) := Arv.set Ar6 qc6 S6 Nn6 H6 G6 rfl W7 2 rfl (Nat.le_of_ble_eq_true rfl)
  have K7 : Keep h0 h7 [] := K5.wr W7 (Or.inr sz_b1)
  have N7 := Fr.snoc X7 N5 g_b1
  have Z7 : n0 ≤ h7.size := Nat.le_trans Z5 (Keep.of_wr W7).1
  obtain ⟨cl8, Ar8, qc8, S8, Nn8, H8, G8⟩ := id V7
  have hin8 : ¬ ((3 : Int32) < 0 ∨ cl8.slots.size ≤ ((3 : Int32)).toNatClampNeg) := inb_of S8 ⟨by decide, by decide⟩
  obtain ⟨T9, h9, X9, e9, W9, st9⟩ := stI X7 hx hZ e7 Ar8 (j := (3 : Int32)) hin8 (g := (mkF m 60 #[.val (.int p1), .val (.long q2), .second, .val (.long q3), .second, .val (.long q4), .second, .val (.int p5), .val (.int p6), .val (.int (own_bd p1)), .val (.int (own_fs p1)), .val (.int (own_bf p1)), .val (.ref b1), .unset, .unset, .unset, .unset] [(.int (((q3.toUInt64 >>> ((32 : Int32) &&& 0x3f).toInt64.toUInt64).toInt64).toInt32)), (.int (3 : Int32)), (.ref b1)])) rfl rfl (hb hby at_60)
  have V9 : Arv Z h9 b1 k1 .int (8 : Int32) [(.int (q2.toInt32)), (.int (((q2.toUInt64 >>> ((32 : Int32) &&& 0x3f).toInt64.toUInt64).toInt64).toInt32)), (.int (q3.toInt32)), (.int (((q3.toUInt64 >>> ((32 : Int32) &&& 0x3f).toInt64.toUInt64).toInt64).toInt32)), (.int (0 : Int32)), (.int (0 : Int32)), (.int (0 : Int32)), (.int (0 : Int32))] (.int (0 : Int32)) := Arv.set Ar8 qc8 S8 Nn8 H8 G8 rfl W9 3 rfl (Nat.le_of_ble_eq_true rfl)
  have K9 : Keep h0 h9 [] := K7.wr W9 (Or.inr sz_b1)
  have N9 := Fr.snoc X9 N7 g_b1
  have Z9 : n0 ≤ h9.size := Nat.le_trans Z7 (Keep.of_wr W9).1
  obtain ⟨cl10, Ar10, qc10, S10, Nn10, H10, G10⟩ := id V9
  have hin10 : ¬ ((4 : Int32) < 0 ∨ cl10.slots.size ≤ ((4 : Int32)).toNatClampNeg) := inb_of S10 ⟨by decide, by decide⟩
  obtain ⟨T11, h11, X11, e11, W11, st11⟩ := stI X9 hx hZ e9 Ar10 (j := (4 : Int32)) hin10 (g := (mkF m 67 #[.val (.int p1), .val (.long q2), .second, .val (.long q3), .second, .val (.long q4), .second, .val (.int p5), .val (.int p6), .val (.int (own_bd p1)), .val (.int (own_fs p1)), .val (.int (own_bf p1)), .val (.ref b1), .unset, .unset, .unset, .unset] [(.int (q4.toInt32)), (.int (4 : Int32)), (.ref b1)])) rfl rfl (hb hby at_67)
  have V11 : Arv Z h11 b1 k1 .int (8 : Int32) [(.int (q2.toInt32)), (.int (((q2.toUInt64 >>> ((32 : Int32) &&& 0x3f).toInt64.toUInt64).toInt64).toInt32)), (.int (q3.toInt32)), (.int (((q3.toUInt64 >>> ((32 : Int32) &&& 0x3f).toInt64.toUInt64).toInt64).toInt32)), (.int (q4.toInt32)), (.int (0 : Int32)), (.int (0 : Int32)), (.int (0 : Int32))] (.int (0 : Int32)) := Arv.set Ar10 qc10 S10 Nn10 H10 G10 rfl W11 4 rfl (Nat.le_of_ble_eq_true rfl)
  have K11 : Keep h0 h11 [] := K9.wr W11 (Or.inr sz_b1)
  have N11 := Fr.snoc X11 N9 g_b1
  have Z11 : n0 ≤ h11.size := Nat.le_trans Z9 (Keep.of_wr W11).1
  obtain ⟨cl12, Ar12, qc12, S12, Nn12, H12, G12⟩ := id V11
  have hin12 : ¬ ((5 : Int32) < 0 ∨ cl12.slots.size ≤ ((5 : Int32)).toNatClampNeg) := inb_of S12 ⟨by decide, by decide⟩
  obtain ⟨T13, h13, X13, e13, W13, st13⟩ := stI X11 hx hZ e11 Ar12 (j := (5 : Int32)) hin12 (g := (mkF m 77 #[.val (.int p1), .val (.long q2), .second, .val (.long q3), .second, .val (.long q4), .second, .val (.int p5), .val (.int p6), .val (.int (own_bd p1)), .val (.int (own_fs p1)), .val (.int (own_bf p1)), .val (.ref b1), .unset, .unset, .unset, .unset] [(.int (((q4.toUInt64 >>> ((32 : Int32) &&& 0x3f).toInt64.toUInt64).toInt64).toInt32)), (.int (5 : Int32)), (.ref b1)])) rfl rfl (hb hby at_77)
  have V13 : Arv Z h13 b1 k1 .int (8 : Int32) [(.int (q2.toInt32)), (.int (((q2.toUInt64 >>> ((32 : Int32) &&& 0x3f).toInt64.toUInt64).toInt64).toInt32)), (.int (q3.toInt32)), (.int (((q3.toUInt64 >>> ((32 : Int32) &&& 0x3f).toInt64.toUInt64).toInt64).toInt32)), (.int (q4.toInt32)), (.int (((q4.toUInt64 >>> ((32 : Int32) &&& 0x3f).toInt64.toUInt64).toInt64).toInt32)), (.int (0 : Int32)), (.int (0 : Int32))] (.int (0 : Int32)) := Arv.set Ar12 qc12 S12 Nn12 H12 G12 rfl W13 5 rfl (Nat.le_of_ble_eq_true rfl)
  have K13 : Keep h0 h13 [] := K11.wr W13 (Or.inr sz_b1)
  have N13 := Fr.snoc X13 N11 g_b1
  have Z13 : n0 ≤ h13.size := Nat.le_trans Z11 (Keep.of_wr W13).1
  obtain ⟨cl14, Ar14, qc14, S14, Nn14, H14, G14⟩ := id V13
  have hin14 : ¬ ((6 : Int32) < 0 ∨ cl14.slots.size ≤ ((6 : Int32)).toNatClampNeg) := inb_of S14 ⟨by decide, by decide⟩
  obtain ⟨T15, h15, X15, e15, W15, st15⟩ := stI X13 hx hZ e13 Ar14 (j := (6 : Int32)) hin14 (g := (mkF m 84 #[.val (.int p1), .val (.long q2), .second, .val (.long q3), .second, .val (.long q4), .second, .val (.int p5), .val (.int p6), .val (.int (own_bd p1)), .val (.int (own_fs p1)), .val (.int (own_bf p1)), .val (.ref b1), .unset, .unset, .unset, .unset] [(.int p5), (.int (6 : Int32)), (.ref b1)])) rfl rfl (hb hby at_84)
  have V15 : Arv Z h15 b1 k1 .int (8 : Int32) [(.int (q2.toInt32)), (.int (((q2.toUInt64 >>> ((32 : Int32) &&& 0x3f).toInt64.toUInt64).toInt64).toInt32)), (.int (q3.toInt32)), (.int (((q3.toUInt64 >>> ((32 : Int32) &&& 0x3f).toInt64.toUInt64).toInt64).toInt32)), (.int (q4.toInt32)), (.int (((q4.toUInt64 >>> ((32 : Int32) &&& 0x3f).toInt64.toUInt64).toInt64).toInt32)), (.int p5), (.int (0 : Int32))] (.int (0 : Int32)) := Arv.set Ar14 qc14 S14 Nn14 H14 G14 rfl W15 6 rfl (Nat.le_of_ble_eq_true rfl)
  have K15 : Keep h0 h15 [] := K13.wr W15 (Or.inr sz_b1)
  have N15 := Fr.snoc X15 N13 g_b1
  have Z15 : n0 ≤ h15.size := Nat.le_trans Z13 (Keep.of_wr W15).1
  obtain ⟨cl16, Ar16, qc16, S16, Nn16, H16, G16⟩ := id V15
  have hin16 : ¬ ((7 : Int32) < 0 ∨ cl16.slots.size ≤ ((7 : Int32)).toNatClampNeg) := inb_of S16 ⟨by decide, by decide⟩
  obtain ⟨T17, h17, X17, e17, W17, st17⟩ := stI X15 hx hZ e15 Ar16 (j := (7 : Int32)) hin16 (g := (mkF m 91 #[.val (.int p1), .val (.long q2), .second, .val (.long q3), .second, .val (.long q4), .second, .val (.int p5), .val (.int p6), .val (.int (own_bd p1)), .val (.int (own_fs p1)), .val (.int (own_bf p1)), .val (.ref b1), .unset, .unset, .unset, .unset] [(.int p6), (.int (7 : Int32)), (.ref b1)])) rfl rfl (hb hby at_91)
  have V17 : Arv Z h17 b1 k1 .int (8 : Int32) [(.int (q2.toInt32)), (.int (((q2.toUInt64 >>> ((32 : Int32) &&& 0x3f).toInt64.toUInt64).toInt64).toInt32)), (.int (q3.toInt32)), (.int (((q3.toUInt64 >>> ((32 : Int32) &&& 0x3f).toInt64.toUInt64).toInt64).toInt32)), (.int (q4.toInt32)), (.int (((q4.toUInt64 >>> ((32 : Int32) &&& 0x3f).toInt64.toUInt64).toInt64).toInt32)), (.int p5), (.int p6)] (.int (0 : Int32)) := Arv.set Ar16 qc16 S16 Nn16 H16 G16 rfl W17 7 rfl (Nat.le_of_ble_eq_true rfl)
  have K17 : Keep h0 h17 [] := K15.wr W17 (Or.inr sz_b1)
  have N17 := Fr.snoc X17 N15 g_b1
  have Z17 : n0 ≤ h17.size := Nat.le_trans Z15 (Keep.of_wr W17).1
  obtain ⟨T18, h18, k18, X18, e18, E18, A18, st18⟩ := newP X17 hx hZ (hw _ (List.mem_of_getElem? (i := 0) rfl)) e17 (g := (mkF m 94 #[.val (.int p1), .val (.long q2), .second, .val (.long q3), .second, .val (.long q4), .second, .val (.int p5), .val (.int p6), .val (.int (own_bd p1)), .val (.int (own_fs p1)), .val (.int (own_bf p1)), .val (.ref b1), .unset, .unset, .unset, .unset] [(.int (8 : Int32))])) rfl (hb hby at_94) rfl (by decide) (cap := 8) (by decide) (by decide) (by decide) (by decide)
  obtain ⟨b18, g18⟩ : ∃ z, z = h17.size := ⟨_, rfl⟩
  rw [← g18] at A18 st18
  have V18 : Arv Z h18 b18 k18 .int (8 : Int32) [(.int (0 : Int32)), (.int (0 : Int32)), (.int (0 : Int32)), (.int (0 : Int32)), (.int (0 : Int32)), (.int (0 : Int32)), (.int (0 : Int32)), (.int (0 : Int32))] (.int (0 : Int32)) := (Arv.new A18 (by decide)).pad (pad_rep [] (.int (0 : Int32)) 8)
  have g_b18 : n0 ≤ b18 := Nat.le_trans Z17 (Nat.le_of_eq g18.symm)
  have sz_b18 : h0.size ≤ b18 := Nat.le_trans K17.1 (Nat.le_of_eq g18.symm)
  have Z18 : n0 ≤ h18.size := Nat.le_trans Z17 E18.1
  have K18 : Keep h0 h18 [] := K17.ext E18
  have fc20 := (V17.ext E18)
  obtain ⟨cl19, Ar19, qc19, S19, Nn19, H19, G19⟩ := id fc20
  have hin19 : ¬ ((0 : Int32) < 0 ∨ cl19.slots.size ≤ ((0 : Int32)).toNatClampNeg) := inb_of S19 ⟨by decide, by decide⟩
  have hat19 : cl19.slots[((0 : Int32)).toNatClampNeg]? = some (.int (q2.toInt32)) := H19.at hin19 (rfl)
  obtain ⟨cl21, Ar21, qc21, S21, Nn21, H21, G21⟩ := id V18
  have hin21 : ¬ ((0 : Int32) < 0 ∨ cl21.slots.size ≤ ((0 : Int32)).toNatClampNeg) := inb_of S21 ⟨by decide, by decide⟩
  obtain ⟨T22, h22, X22, e22, W22, st22⟩ := stI X18 hx hZ e18 Ar21 (j := (0 : Int32)) hin21 (g := (mkF m 105 #[.val (.int p1), .val (.long q2), .second, .val (.long q3), .second, .val (.long q4), .second, .val (.int p5), .val (.int p6), .val (.int (own_bd p1)), .val (.int (own_fs p1)), .val (.int (own_bf p1)), .val (.ref b1), .val (.ref b18), .unset, .unset, .unset] [(.int (q2.toInt32)), (.int (0 : Int32)), (.ref b18)])) rfl rfl (hb hby at_105)
  have V22 : Arv Z h22 b18 k18 .int (8 : Int32) [(.int (q2.toInt32)), (.int (0 : Int32)), (.int (0 : Int32)), (.int (0 : Int32)), (.int (0 : Int32)), (.int (0 : Int32)), (.int (0 : Int32)), (.int (0 : Int32))] (.int (0 : Int32)) := Arv.set Ar21 qc21 S21 Nn21 H21 G21 rfl W22 0 rfl (Nat.le_of_ble_eq_true rfl)
  have K22 : Keep h0 h22 [] := K18.wr W22 (Or.inr sz_b18)
  have N22 := Fr.snoc X22 N17 g_b18
  have Z22 : n0 ≤ h22.size := Nat.le_trans Z18 (Keep.of_wr W22).1
  have ne_b1_b18 : b1 ≠ b18 := Nat.ne_of_lt (Nat.lt_of_lt_of_le V17.lt (Nat.le_of_eq g18.symm))
  have fc24 := (fc20.other W22 ne_b1_b18)
  obtain ⟨cl23, Ar23, qc23, S23, Nn23, H23, G23⟩ := id fc24
  have hin23 : ¬ ((1 : Int32) < 0 ∨ cl23.slots.size ≤ ((1 : Int32)).toNatClampNeg) := inb_of S23 ⟨by decide, by decide⟩
  have hat23 : cl23.slots[((1 : Int32)).toNatClampNeg]? = some (.int (((q2.toUInt64 >>> ((32 : Int32) &&& 0x3f).toInt64.toUInt64).toInt64).toInt32)) := H23.at hin23 (rfl)
  obtain ⟨cl25, Ar25, qc25, S25, Nn25, H25, G25⟩ := id V22
  have hin25 : ¬ ((1 : Int32) < 0 ∨ cl25.slots.size ≤ ((1 : Int32)).toNatClampNeg) := inb_of S25 ⟨by decide, by decide⟩
  obtain ⟨T26, h26, X26, e26, W26, st26⟩ := stI X22 hx hZ e22 Ar25 (j := (1 : Int32)) hin25 (g := (mkF m 113 #[.val (.int p1), .val (.long q2), .second, .val (.long q3), .second, .val (.long q4), .second, .val (.int p5), .val (.int p6), .val (.int (own_bd p1)), .val (.int (own_fs p1)), .val (.int (own_bf p1)), .val (.ref b1), .val (.ref b18), .unset, .unset, .unset] [(.int (((q2.toUInt64 >>> ((32 : Int32) &&& 0x3f).toInt64.toUInt64).toInt64).toInt32)), (.int (1 : Int32)), (.ref b18)])) rfl rfl (hb hby at_113)
  have V26 : Arv Z h26 b18 k18 .int (8 : Int32) [(.int (q2.toInt32)), (.int (((q2.toUInt64 >>> ((32 : Int32) &&& 0x3f).toInt64.toUInt64).toInt64).toInt32)), (.int (0 : Int32)), (.int (0 : Int32)), (.int (0 : Int32)), (.int (0 : Int32)), (.int (0 : Int32)), (.int (0 : Int32))] (.int (0 : Int32)) := Arv.set Ar25 qc25 S25 Nn25 H25 G25 rfl W26 1 rfl (Nat.le_of_ble_eq_true rfl)
  have K26 : Keep h0 h26 [] := K22.wr W26 (Or.inr sz_b18)
  have N26 := Fr.snoc X26 N22 g_b18
  have Z26 : n0 ≤ h26.size := Nat.le_trans Z22 (Keep.of_wr W26).1
  have fc28 := (fc24.other W26 ne_b1_b18)
  obtain ⟨cl27, Ar27, qc27, S27, Nn27, H27, G27⟩ := id fc28
  have hin27 : ¬ ((2 : Int32) < 0 ∨ cl27.slots.size ≤ ((2 : Int32)).toNatClampNeg) := inb_of S27 ⟨by decide, by decide⟩
  have hat27 : cl27.slots[((2 : Int32)).toNatClampNeg]? = some (.int (q3.toInt32)) := H27.at hin27 (rfl)
  obtain ⟨cl29, Ar29, qc29, S29, Nn29, H29, G29⟩ := id V26
  have hin29 : ¬ ((2 : Int32) < 0 ∨ cl29.slots.size ≤ ((2 : Int32)).toNatClampNeg) := inb_of S29 ⟨by decide, by decide⟩
  obtain ⟨T30, h30, X30, e30, W30, st30⟩ := stI X26 hx hZ e26 Ar29 (j := (2 : Int32)) hin29 (g := (mkF m 121 #[.val (.int p1), .val (.long q2), .second, .val (.long q3), .second, .val (.long q4), .second, .val (.int p5), .val (.int p6), .val (.int (own_bd p1)), .val (.int (own_fs p1)), .val (.int (own_bf p1)), .val (.ref b1), .val (.ref b18), .unset, .unset, .unset] [(.int (q3.toInt32)), (.int (2 : Int32)), (.ref b18)])) rfl rfl (hb hby at_121)
  have V30 : Arv Z h30 b18 k18 .int (8 : Int32) [(.int (q2.toInt32)), (.int (((q2.toUInt64 >>> ((32 : Int32) &&& 0x3f).toInt64.toUInt64).toInt64).toInt32)), (.int (q3.toInt32)), (.int (0 : Int32)), (.int (0 : Int32)), (.int (0 : Int32)), (.int (0 : Int32)), (.int (0 : Int32))] (.int (0 : Int32)) := Arv.set Ar29 qc29 S29 Nn29 H29 G29 rfl W30 2 rfl (Nat.le_of_ble_eq_true rfl)
  have K30 : Keep h0 h30 [] := K26.wr W30 (Or.inr sz_b18)
  have N30 := Fr.snoc X30 N26 g_b18
  have Z30 : n0 ≤ h30.size := Nat.le_trans Z26 (Keep.of_wr W30).1
  have fc32 := (fc28.other W30 ne_b1_b18)
  obtain ⟨cl31, Ar31, qc31, S31, Nn31, H31, G31⟩ := id fc32
  have hin31 : ¬ ((3 : Int32) < 0 ∨ cl31.slots.size ≤ ((3 : Int32)).toNatClampNeg) := inb_of S31 ⟨by decide, by decide⟩
  have hat31 : cl31.slots[((3 : Int32)).toNatClampNeg]? = some (.int (((q3.toUInt64 >>> ((32 : Int32) &&& 0x3f).toInt64.toUInt64).toInt64).toInt32)) := H31.at hin31 (rfl)
  obtain ⟨cl33, Ar33, qc33, S33, Nn33, H33, G33⟩ := id V30
  have hin33 : ¬ ((3 : Int32) < 0 ∨ cl33.slots.size ≤ ((3 : Int32)).toNatClampNeg) := inb_of S33 ⟨by decide, by decide⟩
  obtain ⟨T34, h34, X34, e34, W34, st34⟩ := stI X30 hx hZ e30 Ar33 (j := (3 : Int32)) hin33 (g := (mkF m 129 #[.val (.int p1), .val (.long q2), .second, .val (.long q3), .second, .val (.long q4), .second, .val (.int p5), .val (.int p6), .val (.int (own_bd p1)), .val (.int (own_fs p1)), .val (.int (own_bf p1)), .val (.ref b1), .val (.ref b18), .unset, .unset, .unset] [(.int (((q3.toUInt64 >>> ((32 : Int32) &&& 0x3f).toInt64.toUInt64).toInt64).toInt32)), (.int (3 : Int32)), (.ref b18)])) rfl rfl (hb hby at_129)
  have V34 : Arv Z h34 b18 k18 .int (8 : Int32) [(.int (q2.toInt32)), (.int (((q2.toUInt64 >>> ((32 : Int32) &&& 0x3f).toInt64.toUInt64).toInt64).toInt32)), (.int (q3.toInt32)), (.int (((q3.toUInt64 >>> ((32 : Int32) &&& 0x3f).toInt64.toUInt64).toInt64).toInt32)), (.int (0 : Int32)), (.int (0 : Int32)), (.int (0 : Int32)), (.int (0 : Int32))] (.int (0 : Int32)) := Arv.set Ar33 qc33 S33 Nn33 H33 G33 rfl W34 3 rfl (Nat.le_of_ble_eq_true rfl)
  have K34 : Keep h0 h34 [] := K30.wr W34 (Or.inr sz_b18)
  have N34 := Fr.snoc X34 N30 g_b18
  have Z34 : n0 ≤ h34.size := Nat.le_trans Z30 (Keep.of_wr W34).1
  have fc36 := (fc32.other W34 ne_b1_b18)
  obtain ⟨cl35, Ar35, qc35, S35, Nn35, H35, G35⟩ := id fc36
  have hin35 : ¬ ((4 : Int32) < 0 ∨ cl35.slots.size ≤ ((4 : Int32)).toNatClampNeg) := inb_of S35 ⟨by decide, by decide⟩
  have hat35 : cl35.slots[((4 : Int32)).toNatClampNeg]? = some (.int (q4.toInt32)) := H35.at hin35 (rfl)
  obtain ⟨cl37, Ar37, qc37, S37, Nn37, H37, G37⟩ := id V34
  have hin37 : ¬ ((4 : Int32) < 0 ∨ cl37.slots.size ≤ ((4 : Int32)).toNatClampNeg) := inb_of S37 ⟨by decide, by decide⟩
  obtain ⟨T38, h38, X38, e38, W38, st38⟩ := stI X34 hx hZ e34 Ar37 (j := (4 : Int32)) hin37 (g := (mkF m 137 #[.val (.int p1), .val (.long q2), .second, .val (.long q3), .second, .val (.long q4), .second, .val (.int p5), .val (.int p6), .val (.int (own_bd p1)), .val (.int (own_fs p1)), .val (.int (own_bf p1)), .val (.ref b1), .val (.ref b18), .unset, .unset, .unset] [(.int (q4.toInt32)), (.int (4 : Int32)), (.ref b18)])) rfl rfl (hb hby at_137)
  have V38 : Arv Z h38 b18 k18 .int (8 : Int32) [(.int (q2.toInt32)), (.int (((q2.toUInt64 >>> ((32 : Int32) &&& 0x3f).toInt64.toUInt64).toInt64).toInt32)), (.int (q3.toInt32)), (.int (((q3.toUInt64 >>> ((32 : Int32) &&& 0x3f).toInt64.toUInt64).toInt64).toInt32)), (.int (q4.toInt32)), (.int (0 : Int32)), (.int (0 : Int32)), (.int (0 : Int32))] (.int (0 : Int32)) := Arv.set Ar37 qc37 S37 Nn37 H37 G37 rfl W38 4 rfl (Nat.le_of_ble_eq_true rfl)
  have K38 : Keep h0 h38 [] := K34.wr W38 (Or.inr sz_b18)
  have N38 := Fr.snoc X38 N34 g_b18
  have Z38 : n0 ≤ h38.size := Nat.le_trans Z34 (Keep.of_wr W38).1
  have fc40 := (fc36.other W38 ne_b1_b18)
  obtain ⟨cl39, Ar39, qc39, S39, Nn39, H39, G39⟩ := id fc40
  have hin39 : ¬ ((5 : Int32) < 0 ∨ cl39.slots.size ≤ ((5 : Int32)).toNatClampNeg) := inb_of S39 ⟨by decide, by decide⟩
  have hat39 : cl39.slots[((5 : Int32)).toNatClampNeg]? = some (.int (((q4.toUInt64 >>> ((32 : Int32) &&& 0x3f).toInt64.toUInt64).toInt64).toInt32)) := H39.at hin39 (rfl)
  obtain ⟨cl41, Ar41, qc41, S41, Nn41, H41, G41⟩ := id V38
  have hin41 : ¬ ((5 : Int32) < 0 ∨ cl41.slots.size ≤ ((5 : Int32)).toNatClampNeg) := inb_of S41 ⟨by decide, by decide⟩
  obtain ⟨T42, h42, X42, e42, W42, st42⟩ := stI X38 hx hZ e38 Ar41 (j := (5 : Int32)) hin41 (g := (mkF m 145 #[.val (.int p1), .val (.long q2), .second, .val (.long q3), .second, .val (.long q4), .second, .val (.int p5), .val (.int p6), .val (.int (own_bd p1)), .val (.int (own_fs p1)), .val (.int (own_bf p1)), .val (.ref b1), .val (.ref b18), .unset, .unset, .unset] [(.int (((q4.toUInt64 >>> ((32 : Int32) &&& 0x3f).toInt64.toUInt64).toInt64).toInt32)), (.int (5 : Int32)), (.ref b18)])) rfl rfl (hb hby at_145)
  have V42 : Arv Z h42 b18 k18 .int (8 : Int32) [(.int (q2.toInt32)), (.int (((q2.toUInt64 >>> ((32 : Int32) &&& 0x3f).toInt64.toUInt64).toInt64).toInt32)), (.int (q3.toInt32)), (.int (((q3.toUInt64 >>> ((32 : Int32) &&& 0x3f).toInt64.toUInt64).toInt64).toInt32)), (.int (q4.toInt32)), (.int (((q4.toUInt64 >>> ((32 : Int32) &&& 0x3f).toInt64.toUInt64).toInt64).toInt32)), (.int (0 : Int32)), (.int (0 : Int32))] (.int (0 : Int32)) := Arv.set Ar41 qc41 S41 Nn41 H41 G41 rfl W42 5 rfl (Nat.le_of_ble_eq_true rfl)
  have K42 : Keep h0 h42 [] := K38.wr W42 (Or.inr sz_b18)
  have N42 := Fr.snoc X42 N38 g_b18
  have Z42 : n0 ≤ h42.size := Nat.le_trans Z38 (Keep.of_wr W42).1
  have fc44 := (fc40.other W42 ne_b1_b18)
  obtain ⟨cl43, Ar43, qc43, S43, Nn43, H43, G43⟩ := id fc44
  have hin43 : ¬ ((6 : Int32) < 0 ∨ cl43.slots.size ≤ ((6 : Int32)).toNatClampNeg) := inb_of S43 ⟨by decide, by decide⟩
  have hat43 : cl43.slots[((6 : Int32)).toNatClampNeg]? = some (.int p5) := H43.at hin43 (rfl)
  obtain ⟨cl45, Ar45, qc45, S45, Nn45, H45, G45⟩ := id V42
  have hin45 : ¬ ((6 : Int32) < 0 ∨ cl45.slots.size ≤ ((6 : Int32)).toNatClampNeg) := inb_of S45 ⟨by decide, by decide⟩
  obtain ⟨T46, h46, X46, e46, W46, st46⟩ := stI X42 hx hZ e42 Ar45 (j := (6 : Int32)) hin45 (g := (mkF m 155 #[.val (.int p1), .val (.long q2), .second, .val (.long q3), .second, .val (.long q4), .second, .val (.int p5), .val (.int p6), .val (.int (own_bd p1)), .val (.int (own_fs p1)), .val (.int (own_bf p1)), .val (.ref b1), .val (.ref b18), .unset, .unset, .unset] [(.int p5), (.int (6 : Int32)), (.ref b18)])) rfl rfl (hb hby at_155)
  have V46 : Arv Z h46 b18 k18 .int (8 : Int32) [(.int (q2.toInt32)), (.int (((q2.toUInt64 >>> ((32 : Int32) &&& 0x3f).toInt64.toUInt64).toInt64).toInt32)), (.int (q3.toInt32)), (.int (((q3.toUInt64 >>> ((32 : Int32) &&& 0x3f).toInt64.toUInt64).toInt64).toInt32)), (.int (q4.toInt32)), (.int (((q4.toUInt64 >>> ((32 : Int32) &&& 0x3f).toInt64.toUInt64).toInt64).toInt32)), (.int p5), (.int (0 : Int32))] (.int (0 : Int32)) := Arv.set Ar45 qc45 S45 Nn45 H45 G45 rfl W46 6 rfl (Nat.le_of_ble_eq_true rfl)
  have K46 : Keep h0 h46 [] := K42.wr W46 (Or.inr sz_b18)
  have N46 := Fr.snoc X46 N42 g_b18
  have Z46 : n0 ≤ h46.size := Nat.le_trans Z42 (Keep.of_wr W46).1
  have fc48 := (fc44.other W46 ne_b1_b18)
  obtain ⟨cl47, Ar47, qc47, S47, Nn47, H47, G47⟩ := id fc48
  have hin47 : ¬ ((7 : Int32) < 0 ∨ cl47.slots.size ≤ ((7 : Int32)).toNatClampNeg) := inb_of S47 ⟨by decide, by decide⟩
  have hat47 : cl47.slots[((7 : Int32)).toNatClampNeg]? = some (.int p6) := H47.at hin47 (rfl)
  obtain ⟨cl49, Ar49, qc49, S49, Nn49, H49, G49⟩ := id V46
  have hin49 : ¬ ((7 : Int32) < 0 ∨ cl49.slots.size ≤ ((7 : Int32)).toNatClampNeg) := inb_of S49 ⟨by decide, by decide⟩
  obtain ⟨T50, h50, X50, e50, W50, st50⟩ := stI X46 hx hZ e46 Ar49 (j := (7 : Int32)) hin49 (g := (mkF m 165 #[.val (.int p1), .val (.long q2), .second, .val (.long q3), .second, .val (.long q4), .second, .val (.int p5), .val (.int p6), .val (.int (own_bd p1)), .val (.int (own_fs p1)), .val (.int (own_bf p1)), .val (.ref b1), .val (.ref b18), .unset, .unset, .unset] [(.int p6), (.int (7 : Int32)), (.ref b18)])) rfl rfl (hb hby at_165)
  have V50 : Arv Z h50 b18 k18 .int (8 : Int32) [(.int (q2.toInt32)), (.int (((q2.toUInt64 >>> ((32 : Int32) &&& 0x3f).toInt64.toUInt64).toInt64).toInt32)), (.int (q3.toInt32)), (.int (((q3.toUInt64 >>> ((32 : Int32) &&& 0x3f).toInt64.toUInt64).toInt64).toInt32)), (.int (q4.toInt32)), (.int (((q4.toUInt64 >>> ((32 : Int32) &&& 0x3f).toInt64.toUInt64).toInt64).toInt32)), (.int p5), (.int p6)] (.int (0 : Int32)) := Arv.set Ar49 qc49 S49 Nn49 H49 G49 rfl W50 7 rfl (Nat.le_of_ble_eq_true rfl)
  have K50 : Keep h0 h50 [] := K46.wr W50 (Or.inr sz_b18)
  have N50 := Fr.snoc X50 N46 g_b18
  have Z50 : n0 ≤ h50.size := Nat.le_trans Z46 (Keep.of_wr W50).1
  obtain ⟨T51, h51, X51, e51, E51, A51, D51, -, st51⟩ := newO X50 hx hZ hown (hw _ (List.mem_of_getElem? (i := 1) rfl)) (hw _ (List.mem_of_getElem? (i := 2) rfl)) (hw _ (List.mem_of_getElem? (i := 3) rfl)) e50 (g := (mkF m 166 #[.val (.int p1), .val (.long q2), .second, .val (.long q3), .second, .val (.long q4), .second, .val (.int p5), .val (.int p6), .val (.int (own_bd p1)), .val (.int (own_fs p1)), .val (.int (own_bf p1)), .val (.ref b1), .val (.ref b18), .unset, .unset, .unset] [])) rfl (hb hby at_166) (by decide) (by decide)
  obtain ⟨b51, g51⟩ : ∃ z, z = h50.size := ⟨_, rfl⟩
  rw [← g51] at A51 D51 st51
  have g_b51 : n0 ≤ b51 := Nat.le_trans Z50 (Nat.le_of_eq g51.symm)
  have sz_b51 : h0.size ≤ b51 := Nat.le_trans K50.1 (Nat.le_of_eq g51.symm)
  have Z51 : n0 ≤ h51.size := Nat.le_trans Z50 E51.1
  have K51 : Keep h0 h51 [] := K50.ext E51
  have F_buffers_b51 : Fld Z h51 b51 "com/example/orbweaver/orbweaver/engine/Buffers" "buffers" "Ljava/util/Map;" .null := D51 (Or.inr (hw _ (List.mem_of_getElem? (i := 27) rfl))) (ty := (.object "java/util/Map")) (by decide)
  have F_numbers_b51 : Fld Z h51 b51 "com/example/orbweaver/orbweaver/engine/Buffers" "numbers" "Ljava/util/Map;" .null := D51 (Or.inr (hw _ (List.mem_of_getElem? (i := 29) rfl))) (ty := (.object "java/util/Map")) (by decide)
  have F_messages_b51 : Fld Z h51 b51 "com/example/orbweaver/orbweaver/engine/Buffers" "messages" "Ljava/util/List;" .null := D51 (Or.inr (hw _ (List.mem_of_getElem? (i := 55) rfl))) (ty := (.object "java/util/List")) (by decide)
  have F_first_b51 : Fld Z h51 b51 "com/example/orbweaver/orbweaver/engine/Buffers" "first" "I" (.int (0 : Int32)) := D51 (Or.inl (hw _ (List.mem_of_getElem? (i := 57) rfl))) (ty := .int) (by decide)
  have F_bound_b51 : Fld Z h51 b51 "com/example/orbweaver/orbweaver/engine/Buffers" "bound" "I" (.int (0 : Int32)) := D51 (Or.inr (hw _ (List.mem_of_getElem? (i := 59) rfl))) (ty := .int) (by decide)
  have S1c := own_sk S1 K51
  obtain ⟨_, _, ⟨T52, L52, k52, n52⟩, -, X52, ⟨Lc52, hQ52, l52, y52, z52⟩, st52⟩ := X51.specialBack hx (y := (⟨"com/example/orbweaver/orbweaver/engine/Buffers", "<init>", "(I)V"⟩ : MethodName)) rfl hown (mvT hZ (hw _ (List.mem_of_getElem? (i := 4) rfl))) (mvT hZ (hw _ (List.mem_of_getElem? (i := 5) rfl))) (mvT hZ (hw _ (List.mem_of_getElem? (i := 6) rfl))) (by decide) (backOf (W := 1) (own_init l Z a0 hw [] b51 (own_bd p1) d1 h51 n0 Z51 F_buffers_b51 F_numbers_b51 F_messages_b51 F_first_b51 F_bound_b51 A51 g_b51 S1c) hZ (hw _ (List.mem_of_getElem? (i := 6) rfl)) (hw _ (List.mem_of_getElem? (i := 3) rfl)) (by decide) (by decide)) (g := (mkF m 172 #[.val (.int p1), .val (.long q2), .second, .val (.long q3), .second, .val (.long q4), .second, .val (.int p5), .val (.int p6), .val (.int (own_bd p1)), .val (.int (own_fs p1)), .val (.int (own_bf p1)), .val (.ref b1), .val (.ref b18), .unset, .unset, .unset] [(.int (own_bd p1)), (.ref b51), (.ref b51)])) rfl (by rw [hml]; rfl) (Steps.refl _) (a := b51) (argsL := [(.int (own_bd p1))]) (rest := [(.ref b51)]) (lenOf pd__I_V rfl) rfl (by show 2 * 0 + _ ≤ _; exact Nat.le_of_eq rfl) (hb hby at_172) (fun _ _ => ⟨rfl, e51, (by decide : 3 + 3 ≤ _), (by decide : 21 + 19 ≤ _)⟩)
  dsimp only [Pt.U, Pt.locs, Pt.cells, Pt.slots] at X52 l52 y52 z52 st52 hQ52
  replace X52 := X52.more (Nat.le_of_eq (show k52 = 6 from y52)) (Nat.le_of_eq (show n52 = 40 from z52))
  obtain ⟨rfl, Nq52, Kq52, Ff1, Fb1⟩ := hQ52
  have Z52 : n0 ≤ T52.heap.size := Nat.le_trans Z51 Kq52.1
  have K52 : Keep h0 T52.heap [] := K51.trans Kq52 (allS (Or.inr sz_b51) all0)
  have N52 : Fr n0 L52 := by rw [l52]; exact Fr.app N50 Nq52
  have fc53 := (A51.keep Kq52)
  obtain ⟨cq54, kq54, q54a, q54b, q54c⟩ := isOf hZ rfl fc53
  obtain ⟨_, _, ⟨T54, L54, k54, n54⟩, -, X54, ⟨Lc54, hQ54, l54, y54, z54⟩, st54⟩ := X52.virtualBack hx (y := (⟨"com/example/orbweaver/orbweaver/engine/Buffers", "place", "(I)V"⟩ : MethodName)) (z := (⟨"com/example/orbweaver/orbweaver/engine/Buffers", "place", "(I)V"⟩ : MethodName)) hown (mvT hZ (hw _ (List.mem_of_getElem? (i := 60) rfl))) (mvT hZ (hw _ (List.mem_of_getElem? (i := 61) rfl))) (notFace_of_selects (args := #[]) (mvT hZ (hw _ (List.mem_of_getElem? (i := 63) rfl)))) (mvT hZ (hw _ (List.mem_of_getElem? (i := 63) rfl))) (mvT hZ (hw _ (List.mem_of_getElem? (i := 62) rfl))) (by decide) (backOf (W := 0) (own_place l Z a0 hw [] b51 (own_fs p1) (-1 : Int32) (own_bd p1) T52.heap n0 Z52 Ff1 Fb1 fc53 g_b51) hZ (hw _ (List.mem_of_getElem? (i := 64) rfl)) (hw _ (List.mem_of_getElem? (i := 3) rfl)) (by decide) (by decide)) q54a q54c (g := (mkF m 181 #[.val (.int p1), .val (.long q2), .second, .val (.long q3), .second, .val (.long q4), .second, .val (.int p5), .val (.int p6), .val (.int (own_bd p1)), .val (.int (own_fs p1)), .val (.int (own_bf p1)), .val (.ref b1), .val (.ref b18), .val (.ref b51), .unset, .unset] [(.int (own_fs p1)), (.ref b51)])) rfl (by rw [hml]; rfl) (Steps.refl _) (argsL := [(.int (own_fs p1))]) (rest := []) (lenOf pd__I_V rfl) rfl (by show 2 * 0 + _ ≤ _; exact Nat.le_of_eq rfl) (hb hby at_181) (fun _ _ => ⟨rfl, rfl, (by decide : 6 + 0 ≤ _), (by decide : 40 + 0 ≤ _)⟩)
  dsimp only [Pt.U, Pt.locs, Pt.cells, Pt.slots] at X54 l54 y54 z54 st54 hQ54
  replace X54 := X54.more (Nat.le_of_eq (show k54 = 6 from y54)) (Nat.le_of_eq (show n54 = 40 from z54))
  obtain ⟨rfl, Nq54, Kq54, Ff2, Fb2⟩ := hQ54
  have Z54 : n0 ≤ T54.heap.size := Nat.le_trans Z52 Kq54.1
  have K54 : Keep h0 T54.heap [] := K52.trans Kq54 (allS (Or.inr sz_b51) all0)
  have N54 : Fr n0 L54 := by rw [l54]; exact Fr.app N52 Nq54
  have ne_b18_b51 : b18 ≠ b51 := Nat.ne_of_lt (Nat.lt_of_lt_of_le V50.lt (Nat.le_of_eq g51.symm))
  have fc55 := (((V50.ext E51).keep Kq52 (ninS ne_b18_b51 nin0)).keep Kq54 (ninS ne_b18_b51 nin0))
  have fc57 := (fc53.keep Kq54)
  obtain ⟨cq56, kq56, q56a, q56b, q56c⟩ := isOf hZ rfl fc57
  obtain ⟨_, _, ⟨T56, L56, k56, n56⟩, -, X56, ⟨Lc56, hQ56, l56, y56, z56⟩, st56⟩ := X54.virtualBack hx (y := (⟨"com/example/orbweaver/orbweaver/engine/Buffers", "take", "([II)[I"⟩ : MethodName)) (z := (⟨"com/example/orbweaver/orbweaver/engine/Buffers", "take", "([II)[I"⟩ : MethodName)) hown (mvT hZ (hw _ (List.mem_of_getElem? (i := 65) rfl))) (mvT hZ (hw _ (List.mem_of_getElem? (i := 66) rfl))) (notFace_of_selects (args := #[]) (mvT hZ (hw _ (List.mem_of_getElem? (i := 68) rfl)))) (mvT hZ (hw _ (List.mem_of_getElem? (i := 68) rfl))) (mvT hZ (hw _ (List.mem_of_getElem? (i := 67) rfl))) (by decide) (backOf (W := 0) (own_take l Z a0 hw [] b51 b18 (own_bf p1) (own_fs p1) (own_bd p1) k18 [(.int (q2.toInt32)), (.int (((q2.toUInt64 >>> ((32 : Int32) &&& 0x3f).toInt64.toUInt64).toInt64).toInt32)), (.int (q3.toInt32)), (.int (((q3.toUInt64 >>> ((32 : Int32) &&& 0x3f).toInt64.toUInt64).toInt64).toInt32)), (.int (q4.toInt32)), (.int (((q4.toUInt64 >>> ((32 : Int32) &&& 0x3f).toInt64.toUInt64).toInt64).toInt32)), (.int p5), (.int p6)] T54.heap n0 Z54 Ff2 Fb2 fc55 rfl (own_Pp p1) g_b18 (Ne.symm ne_b18_b51)) hZ (hw _ (List.mem_of_getElem? (i := 69) rfl)) (hw _ (List.mem_of_getElem? (i := 3) rfl)) (by decide) (by decide)) q56a q56c (g := (mkF m 190 #[.val (.int p1), .val (.long q2), .second, .val (.long q3), .second, .val (.long q4), .second, .val (.int p5), .val (.int p6), .val (.int (own_bd p1)), .val (.int (own_fs p1)), .val (.int (own_bf p1)), .val (.ref b1), .val (.ref b18), .val (.ref b51), .unset, .unset] [(.int (own_bf p1)), (.ref b18), (.ref b51)])) rfl (by rw [hml]; rfl) (Steps.refl _) (argsL := [(.ref b18), (.int (own_bf p1))]) (rest := []) (lenOf pd___II__I rfl) rfl (by show 2 * 0 + _ ≤ _; exact Nat.le_of_eq rfl) (hb hby at_190) (fun _ _ => ⟨rfl, rfl, (by decide : 6 + 0 ≤ _), (by decide : 40 + 0 ≤ _)⟩)
  dsimp only [Pt.U, Pt.locs, Pt.cells, Pt.slots] at X56 l56 y56 z56 st56 hQ56
  replace X56 := X56.more (Nat.le_of_eq (show k56 = 6 from y56)) (Nat.le_of_eq (show n56 = 40 from z56))
  obtain ⟨rfl, Nq56, Kq56, Vt⟩ := hQ56
  have Z56 : n0 ≤ T56.heap.size := Nat.le_trans Z54 Kq56.1
  have K56 : Keep h0 T56.heap [] := K54.trans Kq56 (allS (Or.inr sz_b18) all0)
  have N56 : Fr n0 L56 := by rw [l56]; exact Fr.app N54 Nq56
  obtain ⟨ys, eys, hok⟩ := own_tk_map ((q2.toInt32)) ((((q2.toUInt64 >>> ((32 : Int32) &&& 0x3f).toInt64.toUInt64).toInt64).toInt32)) ((q3.toInt32)) ((((q3.toUInt64 >>> ((32 : Int32) &&& 0x3f).toInt64.toUInt64).toInt64).toInt32)) ((q4.toInt32)) ((((q4.toUInt64 >>> ((32 : Int32) &&& 0x3f).toInt64.toUInt64).toInt64).toInt32)) (p5) (p6) (own_Pp p1)
  rw [eys] at Vt
  have fc58 := (fc48.other W50 ne_b1_b18)
  have ne_b1_b51 : b1 ≠ b51 := Nat.ne_of_lt (Nat.lt_of_lt_of_le fc58.lt (Nat.le_of_eq g51.symm))
  have fc59 := (((((fc48.other W50 ne_b1_b18).ext E51).keep Kq52 (ninS ne_b1_b51 nin0)).keep Kq54 (ninS ne_b1_b51 nin0)).keep Kq56 (ninS ne_b1_b18 nin0))
  obtain ⟨_, _, ⟨T60, L60, k60, n60⟩, -, X60, ⟨Lc60, hQ60, l60, y60, z60⟩, st60⟩ := Jvm.LawKit.callS X56 hx (y := (⟨"com/example/orbweaver/orbweaver/engine/BuffersTakePinLaw", "ok", "([I[IIII)Z"⟩ : MethodName)) hown (mvT hZ (hw _ (List.mem_of_getElem? (i := 74) rfl))) (mvT hZ (hw _ (List.mem_of_getElem? (i := 75) rfl))) (mvT hZ (hw _ (List.mem_of_getElem? (i := 76) rfl))) (mvT hZ (hw _ (List.mem_of_getElem? (i := 77) rfl))) (by decide) (backOf (W := 0) (own_mok l Z a0 hw [] b1 b18 (0 : Int32) ((own_fs p1) + ((own_bf p1) * (own_bd p1))) (own_bd p1) k1 k18 [(q2.toInt32), (((q2.toUInt64 >>> ((32 : Int32) &&& 0x3f).toInt64.toUInt64).toInt64).toInt32), (q3.toInt32), (((q3.toUInt64 >>> ((32 : Int32) &&& 0x3f).toInt64.toUInt64).toInt64).toInt32), (q4.toInt32), (((q4.toUInt64 >>> ((32 : Int32) &&& 0x3f).toInt64.toUInt64).toInt64).toInt32), p5, p6] ys T56.heap n0 Z56 fc59 Vt ⟨by decide, by decide⟩ (own_jn (own_Pp p1) (by simp))) hZ (hw _ (List.mem_of_getElem? (i := 77) rfl)) (hw _ (List.mem_of_getElem? (i := 76) rfl)) (by decide) (by decide)) (g := (mkF m 223 #[.val (.int p1), .val (.long q2), .second, .val (.long q3), .second, .val (.long q4), .second, .val (.int p5), .val (.int p6), .val (.int (own_bd p1)), .val (.int (own_fs p1)), .val (.int (own_bf p1)), .val (.ref b1), .val (.ref b18), .val (.ref b51), .val (.ref b18), .val (.int ((own_fs p1) + ((own_bf p1) * (own_bd p1))))] [(.int (own_bd p1)), (.int ((own_fs p1) + ((own_bf p1) * (own_bd p1)))), (.int (0 : Int32)), (.ref b18), (.ref b1)])) rfl (by rw [hml]; rfl) (argsL := [(.ref b1), (.ref b18), (.int (0 : Int32)), (.int ((own_fs p1) + ((own_bf p1) * (own_bd p1)))), (.int (own_bd p1))]) (rest := []) (lenOf pd___I_IIII_Z rfl) rfl (by show 2 * 0 + _ ≤ _; exact Nat.le_of_eq rfl) (hb hby at_223) (fun _ _ => ⟨rfl, rfl, (by decide : 6 + 0 ≤ _), (by decide : 40 + 0 ≤ _)⟩)
  dsimp only [Pt.U, Pt.locs, Pt.cells, Pt.slots] at X60 l60 y60 z60 st60 hQ60
  replace X60 := X60.more (Nat.le_of_eq (show k60 = 6 from y60)) (Nat.le_of_eq (show n60 = 40 from z60))
  obtain ⟨rfl, Nq60, e60⟩ := hQ60
  have N60 : Fr n0 L60 := by rw [l60]; exact Fr.app N56 Nq60
  obtain ⟨_, _, ⟨T61, L61, k61, n61⟩, -, X61, ⟨Lc61, hQ61, l61, y61, z61⟩, st61⟩ := Jvm.LawKit.callS X60 hx (y := (⟨"com/example/orbweaver/orbweaver/engine/BuffersTakePinLaw", "ok", "([I[IIII)Z"⟩ : MethodName)) hown (mvT hZ (hw _ (List.mem_of_getElem? (i := 74) rfl))) (mvT hZ (hw _ (List.mem_of_getElem? (i := 75) rfl))) (mvT hZ (hw _ (List.mem_of_getElem? (i := 76) rfl))) (mvT hZ (hw _ (List.mem_of_getElem? (i := 77) rfl))) (by decide) (backOf (W := 0) (own_mok l Z a0 hw [] b1 b18 (1 : Int32) ((own_fs p1) + ((own_bf p1) * (own_bd p1))) (own_bd p1) k1 k18 [(q2.toInt32), (((q2.toUInt64 >>> ((32 : Int32) &&& 0x3f).toInt64.toUInt64).toInt64).toInt32), (q3.toInt32), (((q3.toUInt64 >>> ((32 : Int32) &&& 0x3f).toInt64.toUInt64).toInt64).toInt32), (q4.toInt32), (((q4.toUInt64 >>> ((32 : Int32) &&& 0x3f).toInt64.toUInt64).toInt64).toInt32), p5, p6] ys T56.heap n0 Z56 fc59 Vt ⟨by decide, by decide⟩ (own_jn (own_Pp p1) (by simp))) hZ (hw _ (List.mem_of_getElem? (i := 77) rfl)) (hw _ (List.mem_of_getElem? (i := 76) rfl)) (by decide) (by decide)) (g := (mkF m 238 #[.val (.int p1), .val (.long q2), .second, .val (.long q3), .second, .val (.long q4), .second, .val (.int p5), .val (.int p6), .val (.int (own_bd p1)), .val (.int (own_fs p1)), .val (.int (own_bf p1)), .val (.ref b1), .val (.ref b18), .val (.ref b51), .val (.ref b18), .val (.int ((own_fs p1) + ((own_bf p1) * (own_bd p1))))] [(.int (own_bd p1)), (.int ((own_fs p1) + ((own_bf p1) * (own_bd p1)))), (.int (1 : Int32)), (.ref b18), (.ref b1)])) rfl (by rw [hml]; rfl) (argsL := [(.ref b1), (.ref b18), (.int (1 : Int32)), (.int ((own_fs p1) + ((own_bf p1) * (own_bd p1)))), (.int (own_bd p1))]) (rest := []) (lenOf pd___I_IIII_Z rfl) rfl (by show 2 * 0 + _ ≤ _; exact Nat.le_of_eq rfl) (hb hby at_238) (fun _ _ => ⟨rfl, e60, (by decide : 6 + 0 ≤ _), (by decide : 40 + 0 ≤ _)⟩)
  dsimp only [Pt.U, Pt.locs, Pt.cells, Pt.slots] at X61 l61 y61 z61 st61 hQ61
  replace X61 := X61.more (Nat.le_of_eq (show k61 = 6 from y61)) (Nat.le_of_eq (show n61 = 40 from z61))
  obtain ⟨rfl, Nq61, e61⟩ := hQ61
  have N61 : Fr n0 L61 := by rw [l61]; exact Fr.app N60 Nq61
  obtain ⟨_, _, ⟨T62, L62, k62, n62⟩, -, X62, ⟨Lc62, hQ62, l62, y62, z62⟩, st62⟩ := Jvm.LawKit.callS X61 hx (y := (⟨"com/example/orbweaver/orbweaver/engine/BuffersTakePinLaw", "ok", "([I[IIII)Z"⟩ : MethodName)) hown (mvT hZ (hw _ (List.mem_of_getElem? (i := 74) rfl))) (mvT hZ (hw _ (List.mem_of_getElem? (i := 75) rfl))) (mvT hZ (hw _ (List.mem_of_getElem? (i := 76) rfl))) (mvT hZ (hw _ (List.mem_of_getElem? (i := 77) rfl))) (by decide) (backOf (W := 0) (own_mok l Z a0 hw [] b1 b18 (2 : Int32) ((own_fs p1) + ((own_bf p1) * (own_bd p1))) (own_bd p1) k1 k18 [(q2.toInt32), (((q2.toUInt64 >>> ((32 : Int32) &&& 0x3f).toInt64.toUInt64).toInt64).toInt32), (q3.toInt32), (((q3.toUInt64 >>> ((32 : Int32) &&& 0x3f).toInt64.toUInt64).toInt64).toInt32), (q4.toInt32), (((q4.toUInt64 >>> ((32 : Int32) &&& 0x3f).toInt64.toUInt64).toInt64).toInt32), p5, p6] ys T56.heap n0 Z56 fc59 Vt ⟨by decide, by decide⟩ (own_jn (own_Pp p1) (by simp))) hZ (hw _ (List.mem_of_getElem? (i := 77) rfl)) (hw _ (List.mem_of_getElem? (i := 76) rfl)) (by decide) (by decide)) (g := (mkF m 253 #[.val (.int p1), .val (.long q2), .second, .val (.long q3), .second, .val (.long q4), .second, .val (.int p5), .val (.int p6), .val (.int (own_bd p1)), .val (.int (own_fs p1)), .val (.int (own_bf p1)), .val (.ref b1), .val (.ref b18), .val (.ref b51), .val (.ref b18), .val (.int ((own_fs p1) + ((own_bf p1) * (own_bd p1))))] [(.int (own_bd p1)), (.int ((own_fs p1) + ((own_bf p1) * (own_bd p1)))), (.int (2 : Int32)), (.ref b18), (.ref b1)])) rfl (by rw [hml]; rfl) (argsL := [(.ref b1), (.ref b18), (.int (2 : Int32)), (.int ((own_fs p1) + ((own_bf p1) * (own_bd p1)))), (.int (own_bd p1))]) (rest := []) (lenOf pd___I_IIII_Z rfl) rfl (by show 2 * 0 + _ ≤ _; exact Nat.le_of_eq rfl) (hb hby at_253) (fun _ _ => ⟨rfl, e61, (by decide : 6 + 0 ≤ _), (by decide : 40 + 0 ≤ _)⟩)
  dsimp only [Pt.U, Pt.locs, Pt.cells, Pt.slots] at X62 l62 y62 z62 st62 hQ62
  replace X62 := X62.more (Nat.le_of_eq (show k62 = 6 from y62)) (Nat.le_of_eq (show n62 = 40 from z62))
  obtain ⟨rfl, Nq62, e62⟩ := hQ62
  have N62 : Fr n0 L62 := by rw [l62]; exact Fr.app N61 Nq62
  obtain ⟨_, _, ⟨T63, L63, k63, n63⟩, -, X63, ⟨Lc63, hQ63, l63, y63, z63⟩, st63⟩ := Jvm.LawKit.callS X62 hx (y := (⟨"com/example/orbweaver/orbweaver/engine/BuffersTakePinLaw", "ok", "([I[IIII)Z"⟩ : MethodName)) hown (mvT hZ (hw _ (List.mem_of_getElem? (i := 74) rfl))) (mvT hZ (hw _ (List.mem_of_getElem? (i := 75) rfl))) (mvT hZ (hw _ (List.mem_of_getElem? (i := 76) rfl))) (mvT hZ (hw _ (List.mem_of_getElem? (i := 77) rfl))) (by decide) (backOf (W := 0) (own_mok l Z a0 hw [] b1 b18 (3 : Int32) ((own_fs p1) + ((own_bf p1) * (own_bd p1))) (own_bd p1) k1 k18 [(q2.toInt32), (((q2.toUInt64 >>> ((32 : Int32) &&& 0x3f).toInt64.toUInt64).toInt64).toInt32), (q3.toInt32), (((q3.toUInt64 >>> ((32 : Int32) &&& 0x3f).toInt64.toUInt64).toInt64).toInt32), (q4.toInt32), (((q4.toUInt64 >>> ((32 : Int32) &&& 0x3f).toInt64.toUInt64).toInt64).toInt32), p5, p6] ys T56.heap n0 Z56 fc59 Vt ⟨by decide, by decide⟩ (own_jn (own_Pp p1) (by simp))) hZ (hw _ (List.mem_of_getElem? (i := 77) rfl)) (hw _ (List.mem_of_getElem? (i := 76) rfl)) (by decide) (by decide)) (g := (mkF m 268 #[.val (.int p1), .val (.long q2), .second, .val (.long q3), .second, .val (.long q4), .second, .val (.int p5), .val (.int p6), .val (.int (own_bd p1)), .val (.int (own_fs p1)), .val (.int (own_bf p1)), .val (.ref b1), .val (.ref b18), .val (.ref b51), .val (.ref b18), .val (.int ((own_fs p1) + ((own_bf p1) * (own_bd p1))))] [(.int (own_bd p1)), (.int ((own_fs p1) + ((own_bf p1) * (own_bd p1)))), (.int (3 : Int32)), (.ref b18), (.ref b1)])) rfl (by rw [hml]; rfl) (argsL := [(.ref b1), (.ref b18), (.int (3 : Int32)), (.int ((own_fs p1) + ((own_bf p1) * (own_bd p1)))), (.int (own_bd p1))]) (rest := []) (lenOf pd___I_IIII_Z rfl) rfl (by show 2 * 0 + _ ≤ _; exact Nat.le_of_eq rfl) (hb hby at_268) (fun _ _ => ⟨rfl, e62, (by decide : 6 + 0 ≤ _), (by decide : 40 + 0 ≤ _)⟩)
  dsimp only [Pt.U, Pt.locs, Pt.cells, Pt.slots] at X63 l63 y63 z63 st63 hQ63
  replace X63 := X63.more (Nat.le_of_eq (show k63 = 6 from y63)) (Nat.le_of_eq (show n63 = 40 from z63))
  obtain ⟨rfl, Nq63, e63⟩ := hQ63
  have N63 : Fr n0 L63 := by rw [l63]; exact Fr.app N62 Nq63
  obtain ⟨_, _, ⟨T64, L64, k64, n64⟩, -, X64, ⟨Lc64, hQ64, l64, y64, z64⟩, st64⟩ := Jvm.LawKit.callS X63 hx (y := (⟨"com/example/orbweaver/orbweaver/engine/BuffersTakePinLaw", "ok", "([I[IIII)Z"⟩ : MethodName)) hown (mvT hZ (hw _ (List.mem_of_getElem? (i := 74) rfl))) (mvT hZ (hw _ (List.mem_of_getElem? (i := 75) rfl))) (mvT hZ (hw _ (List.mem_of_getElem? (i := 76) rfl))) (mvT hZ (hw _ (List.mem_of_getElem? (i := 77) rfl))) (by decide) (backOf (W := 0) (own_mok l Z a0 hw [] b1 b18 (4 : Int32) ((own_fs p1) + ((own_bf p1) * (own_bd p1))) (own_bd p1) k1 k18 [(q2.toInt32), (((q2.toUInt64 >>> ((32 : Int32) &&& 0x3f).toInt64.toUInt64).toInt64).toInt32), (q3.toInt32), (((q3.toUInt64 >>> ((32 : Int32) &&& 0x3f).toInt64.toUInt64).toInt64).toInt32), (q4.toInt32), (((q4.toUInt64 >>> ((32 : Int32) &&& 0x3f).toInt64.toUInt64).toInt64).toInt32), p5, p6] ys T56.heap n0 Z56 fc59 Vt ⟨by decide, by decide⟩ (own_jn (own_Pp p1) (by simp))) hZ (hw _ (List.mem_of_getElem? (i := 77) rfl)) (hw _ (List.mem_of_getElem? (i := 76) rfl)) (by decide) (by decide)) (g := (mkF m 283 #[.val (.int p1), .val (.long q2), .second, .val (.long q3), .second, .val (.long q4), .second, .val (.int p5), .val (.int p6), .val (.int (own_bd p1)), .val (.int (own_fs p1)), .val (.int (own_bf p1)), .val (.ref b1), .val (.ref b18), .val (.ref b51), .val (.ref b18), .val (.int ((own_fs p1) + ((own_bf p1) * (own_bd p1))))] [(.int (own_bd p1)), (.int ((own_fs p1) + ((own_bf p1) * (own_bd p1)))), (.int (4 : Int32)), (.ref b18), (.ref b1)])) rfl (by rw [hml]; rfl) (argsL := [(.ref b1), (.ref b18), (.int (4 : Int32)), (.int ((own_fs p1) + ((own_bf p1) * (own_bd p1)))), (.int (own_bd p1))]) (rest := []) (lenOf pd___I_IIII_Z rfl) rfl (by show 2 * 0 + _ ≤ _; exact Nat.le_of_eq rfl) (hb hby at_283) (fun _ _ => ⟨rfl, e63, (by decide : 6 + 0 ≤ _), (by decide : 40 + 0 ≤ _)⟩)
  dsimp only [Pt.U, Pt.locs, Pt.cells, Pt.slots] at X64 l64 y64 z64 st64 hQ64
  replace X64 := X64.more (Nat.le_of_eq (show k64 = 6 from y64)) (Nat.le_of_eq (show n64 = 40 from z64))
  obtain ⟨rfl, Nq64, e64⟩ := hQ64
  have N64 : Fr n0 L64 := by rw [l64]; exact Fr.app N63 Nq64
  obtain ⟨_, _, ⟨T65, L65, k65, n65⟩, -, X65, ⟨Lc65, hQ65, l65, y65, z65⟩, st65⟩ := Jvm.LawKit.callS X64 hx (y := (⟨"com/example/orbweaver/orbweaver/engine/BuffersTakePinLaw", "ok", "([I[IIII)Z"⟩ : MethodName)) hown (mvT hZ (hw _ (List.mem_of_getElem? (i := 74) rfl))) (mvT hZ (hw _ (List.mem_of_getElem? (i := 75) rfl))) (mvT hZ (hw _ (List.mem_of_getElem? (i := 76) rfl))) (mvT hZ (hw _ (List.mem_of_getElem? (i := 77) rfl))) (by decide) (backOf (W := 0) (own_mok l Z a0 hw [] b1 b18 (5 : Int32) ((own_fs p1) + ((own_bf p1) * (own_bd p1))) (own_bd p1) k1 k18 [(q2.toInt32), (((q2.toUInt64 >>> ((32 : Int32) &&& 0x3f).toInt64.toUInt64).toInt64).toInt32), (q3.toInt32), (((q3.toUInt64 >>> ((32 : Int32) &&& 0x3f).toInt64.toUInt64).toInt64).toInt32), (q4.toInt32), (((q4.toUInt64 >>> ((32 : Int32) &&& 0x3f).toInt64.toUInt64).toInt64).toInt32), p5, p6] ys T56.heap n0 Z56 fc59 Vt ⟨by decide, by decide⟩ (own_jn (own_Pp p1) (by simp))) hZ (hw _ (List.mem_of_getElem? (i := 77) rfl)) (hw _ (List.mem_of_getElem? (i := 76) rfl)) (by decide) (by decide)) (g := (mkF m 298 #[.val (.int p1), .val (.long q2), .second, .val (.long q3), .second, .val (.long q4), .second, .val (.int p5), .val (.int p6), .val (.int (own_bd p1)), .val (.int (own_fs p1)), .val (.int (own_bf p1)), .val (.ref b1), .val (.ref b18), .val (.ref b51), .val (.ref b18), .val (.int ((own_fs p1) + ((own_bf p1) * (own_bd p1))))] [(.int (own_bd p1)), (.int ((own_fs p1) + ((own_bf p1) * (own_bd p1)))), (.int (5 : Int32)), (.ref b18), (.ref b1)])) rfl (by rw [hml]; rfl) (argsL := [(.ref b1), (.ref b18), (.int (5 : Int32)), (.int ((own_fs p1) + ((own_bf p1) * (own_bd p1)))), (.int (own_bd p1))]) (rest := []) (lenOf pd___I_IIII_Z rfl) rfl (by show 2 * 0 + _ ≤ _; exact Nat.le_of_eq rfl) (hb hby at_298) (fun _ _ => ⟨rfl, e64, (by decide : 6 + 0 ≤ _), (by decide : 40 + 0 ≤ _)⟩)
  dsimp only [Pt.U, Pt.locs, Pt.cells, Pt.slots] at X65 l65 y65 z65 st65 hQ65
  replace X65 := X65.more (Nat.le_of_eq (show k65 = 6 from y65)) (Nat.le_of_eq (show n65 = 40 from z65))
  obtain ⟨rfl, Nq65, e65⟩ := hQ65
  have N65 : Fr n0 L65 := by rw [l65]; exact Fr.app N64 Nq65
  obtain ⟨_, _, ⟨T66, L66, k66, n66⟩, -, X66, ⟨Lc66, hQ66, l66, y66, z66⟩, st66⟩ := Jvm.LawKit.callS X65 hx (y := (⟨"com/example/orbweaver/orbweaver/engine/BuffersTakePinLaw", "ok", "([I[IIII)Z"⟩ : MethodName)) hown (mvT hZ (hw _ (List.mem_of_getElem? (i := 74) rfl))) (mvT hZ (hw _ (List.mem_of_getElem? (i := 75) rfl))) (mvT hZ (hw _ (List.mem_of_getElem? (i := 76) rfl))) (mvT hZ (hw _ (List.mem_of_getElem? (i := 77) rfl))) (by decide) (backOf (W := 0) (own_mok l Z a0 hw [] b1 b18 (6 : Int32) ((own_fs p1) + ((own_bf p1) * (own_bd p1))) (own_bd p1) k1 k18 [(q2.toInt32), (((q2.toUInt64 >>> ((32 : Int32) &&& 0x3f).toInt64.toUInt64).toInt64).toInt32), (q3.toInt32), (((q3.toUInt64 >>> ((32 : Int32) &&& 0x3f).toInt64.toUInt64).toInt64).toInt32), (q4.toInt32), (((q4.toUInt64 >>> ((32 : Int32) &&& 0x3f).toInt64.toUInt64).toInt64).toInt32), p5, p6] ys T56.heap n0 Z56 fc59 Vt ⟨by decide, by decide⟩ (own_jn (own_Pp p1) (by simp))) hZ (hw _ (List.mem_of_getElem? (i := 77) rfl)) (hw _ (List.mem_of_getElem? (i := 76) rfl)) (by decide) (by decide)) (g := (mkF m 314 #[.val (.int p1), .val (.long q2), .second, .val (.long q3), .second, .val (.long q4), .second, .val (.int p5), .val (.int p6), .val (.int (own_bd p1)), .val (.int (own_fs p1)), .val (.int (own_bf p1)), .val (.ref b1), .val (.ref b18), .val (.ref b51), .val (.ref b18), .val (.int ((own_fs p1) + ((own_bf p1) * (own_bd p1))))] [(.int (own_bd p1)), (.int ((own_fs p1) + ((own_bf p1) * (own_bd p1)))), (.int (6 : Int32)), (.ref b18), (.ref b1)])) rfl (by rw [hml]; rfl) (argsL := [(.ref b1), (.ref b18), (.int (6 : Int32)), (.int ((own_fs p1) + ((own_bf p1) * (own_bd p1)))), (.int (own_bd p1))]) (rest := []) (lenOf pd___I_IIII_Z rfl) rfl (by show 2 * 0 + _ ≤ _; exact Nat.le_of_eq rfl) (hb hby at_314) (fun _ _ => ⟨rfl, e65, (by decide : 6 + 0 ≤ _), (by decide : 40 + 0 ≤ _)⟩)
  dsimp only [Pt.U, Pt.locs, Pt.cells, Pt.slots] at X66 l66 y66 z66 st66 hQ66
  replace X66 := X66.more (Nat.le_of_eq (show k66 = 6 from y66)) (Nat.le_of_eq (show n66 = 40 from z66))
  obtain ⟨rfl, Nq66, e66⟩ := hQ66
  have N66 : Fr n0 L66 := by rw [l66]; exact Fr.app N65 Nq66
  obtain ⟨_, _, ⟨T67, L67, k67, n67⟩, -, X67, ⟨Lc67, hQ67, l67, y67, z67⟩, st67⟩ := Jvm.LawKit.callS X66 hx (y := (⟨"com/example/orbweaver/orbweaver/engine/BuffersTakePinLaw", "ok", "([I[IIII)Z"⟩ : MethodName)) hown (mvT hZ (hw _ (List.mem_of_getElem? (i := 74) rfl))) (mvT hZ (hw _ (List.mem_of_getElem? (i := 75) rfl))) (mvT hZ (hw _ (List.mem_of_getElem? (i := 76) rfl))) (mvT hZ (hw _ (List.mem_of_getElem? (i := 77) rfl))) (by decide) (backOf (W := 0) (own_mok l Z a0 hw [] b1 b18 (7 : Int32) ((own_fs p1) + ((own_bf p1) * (own_bd p1))) (own_bd p1) k1 k18 [(q2.toInt32), (((q2.toUInt64 >>> ((32 : Int32) &&& 0x3f).toInt64.toUInt64).toInt64).toInt32), (q3.toInt32), (((q3.toUInt64 >>> ((32 : Int32) &&& 0x3f).toInt64.toUInt64).toInt64).toInt32), (q4.toInt32), (((q4.toUInt64 >>> ((32 : Int32) &&& 0x3f).toInt64.toUInt64).toInt64).toInt32), p5, p6] ys T56.heap n0 Z56 fc59 Vt ⟨by decide, by decide⟩ (own_jn (own_Pp p1) (by simp))) hZ (hw _ (List.mem_of_getElem? (i := 77) rfl)) (hw _ (List.mem_of_getElem? (i := 76) rfl)) (by decide) (by decide)) (g := (mkF m 330 #[.val (.int p1), .val (.long q2), .second, .val (.long q3), .second, .val (.long q4), .second, .val (.int p5), .val (.int p6), .val (.int (own_bd p1)), .val (.int (own_fs p1)), .val (.int (own_bf p1)), .val (.ref b1), .val (.ref b18), .val (.ref b51), .val (.ref b18), .val (.int ((own_fs p1) + ((own_bf p1) * (own_bd p1))))] [(.int (own_bd p1)), (.int ((own_fs p1) + ((own_bf p1) * (own_bd p1)))), (.int (7 : Int32)), (.ref b18), (.ref b1)])) rfl (by rw [hml]; rfl) (argsL := [(.ref b1), (.ref b18), (.int (7 : Int32)), (.int ((own_fs p1) + ((own_bf p1) * (own_bd p1)))), (.int (own_bd p1))]) (rest := []) (lenOf pd___I_IIII_Z rfl) rfl (by show 2 * 0 + _ ≤ _; exact Nat.le_of_eq rfl) (hb hby at_330) (fun _ _ => ⟨rfl, e66, (by decide : 6 + 0 ≤ _), (by decide : 40 + 0 ≤ _)⟩)
  dsimp only [Pt.U, Pt.locs, Pt.cells, Pt.slots] at X67 l67 y67 z67 st67 hQ67
  replace X67 := X67.more (Nat.le_of_eq (show k67 = 6 from y67)) (Nat.le_of_eq (show n67 = 40 from z67))
  obtain ⟨rfl, Nq67, e67⟩ := hQ67
  have N67 : Fr n0 L67 := by rw [l67]; exact Fr.app N66 Nq67
  obtain ⟨fs, hr, hrun, hended, hW, hsame⟩ := X67.leave (v := some (.int (1 : Int32))) (fun h => by rw [Bd.returns] at h; cases h)
  refine ⟨_, _, pre0 _ ?_, hrun, hended, _, _, rfl, ?_, ⟨_, rfl⟩, hW, hsame.mono (by decide) (by decide)⟩
  · show Steps p.tables e below (s₁.setTop (mkF m 0 #[.val (.int p1), .val (.long q2), .second, .val (.long q3), .second, .val (.long q4), .second, .val (.int p5), .val (.int p6), .unset, .unset, .unset, .unset, .unset, .unset, .unset, .unset] [])) _
    refine XS.iconst X0.here hx rfl (hb hby at_0) ?_
    show Steps p.tables e below (s₁.setTop (mkF m 1 #[.val (.int p1), .val (.long q2), .second, .val (.long q3), .second, .val (.long q4), .second, .val (.int p5), .val (.int p6), .unset, .unset, .unset, .unset, .unset, .unset, .unset, .unset] [(.int (1 : Int32))])) _
    refine XS.iloadN X0.here hx rfl (hb hby at_1) rfl ?_
    show Steps p.tables e below (s₁.setTop (mkF m 2 #[.val (.int p1), .val (.long q2), .second, .val (.long q3), .second, .val (.long q4), .second, .val (.int p5), .val (.int p6), .unset, .unset, .unset, .unset, .unset, .unset, .unset, .unset] [(.int p1), (.int (1 : Int32))])) _
    refine XS.iconst X0.here hx rfl (hb hby at_2) ?_
    show Steps p.tables e below (s₁.setTop (mkF m 3 #[.val (.int p1), .val (.long q2), .second, .val (.long q3), .second, .val (.long q4), .second, .val (.int p5), .val (.int p6), .unset, .unset, .unset, .unset, .unset, .unset, .unset, .unset] [(.int (3 : Int32)), (.int p1), (.int (1 : Int32))])) _
    refine XS.iand X0.here hx rfl (hb hby at_3) rfl ?_
    show Steps p.tables e below (s₁.setTop (mkF m 4 #[.val (.int p1), .val (.long q2), .second, .val (.long q3), .second, .val (.long q4), .second, .val (.int p5), .val (.int p6), .unset, .unset, .unset, .unset, .unset, .unset, .unset, .unset] [(.int (p1 &&& (3 : Int32))), (.int (1 : Int32))])) _
    refine XS.iconst X0.here hx rfl (hb hby at_4) ?_
    show Steps p.tables e below (s₁.setTop (mkF m 5 #[.val (.int p1), .val (.long q2), .second, .val (.long q3), .second, .val (.long q4), .second, .val (.int p5), .val (.int p6), .unset, .unset, .unset, .unset, .unset, .unset, .unset, .unset] [(.int (3 : Int32)), (.int (p1 &&& (3 : Int32))), (.int (1 : Int32))])) _
    refine iremM X0 hx rfl (hb hby at_5) rfl (by decide) ?_
    show Steps p.tables e below (s₁.setTop (mkF m 6 #[.val (.int p1), .val (.long q2), .second, .val (.long q3), .second, .val (.long q4), .second, .val (.int p5), .val (.int p6), .unset, .unset, .unset, .unset, .unset, .unset, .unset, .unset] [(.int ((p1 &&& (3 : Int32)) % (3 : Int32))), (.int (1 : Int32))])) _
    refine XS.iadd X0.here hx rfl (hb hby at_6) rfl ?_
    show Steps p.tables e below (s₁.setTop (mkF m 7 #[.val (.int p1), .val (.long q2), .second, .val (.long q3), .second, .val (.long q4), .second, .val (.int p5), .val (.int p6), .unset, .unset, .unset, .unset, .unset, .unset, .unset, .unset] [(.int (own_bd p1))])) _
    refine XS.istore X0.here hx rfl (hb hby at_7) rfl (l' := #[.val (.int p1), .val (.long q2), .second, .val (.long q3), .second, .val (.long q4), .second, .val (.int p5), .val (.int p6), .val (.int (own_bd p1)), .unset, .unset, .unset, .unset, .unset, .unset, .unset]) rfl ?_
    show Steps p.tables e below (s₁.setTop (mkF m 9 #[.val (.int p1), .val (.long q2), .second, .val (.long q3), .second, .val (.long q4), .second, .val (.int p5), .val (.int p6), .val (.int (own_bd p1)), .unset, .unset, .unset, .unset, .unset, .unset, .unset] [])) _
    refine XS.iloadN X0.here hx rfl (hb hby at_9) rfl ?_
    show Steps p.tables e below (s₁.setTop (mkF m 10 #[.val (.int p1), .val (.long q2), .second, .val (.long q3), .second, .val (.long q4), .second, .val (.int p5), .val (.int p6), .val (.int (own_bd p1)), .unset, .unset, .unset, .unset, .unset, .unset, .unset] [(.int p1)])) _
    refine XS.iconst X0.here hx rfl (hb hby at_10) ?_
    show Steps p.tables e below (s₁.setTop (mkF m 11 #[.val (.int p1), .val (.long q2), .second, .val (.long q3), .second, .val (.long q4), .second, .val (.int p5), .val (.int p6), .val (.int (own_bd p1)), .unset, .unset, .unset, .unset, .unset, .unset, .unset] [(.int (2 : Int32)), (.int p1)])) _
    refine XS.iushr X0.here hx rfl (hb hby at_11) rfl ?_
    show Steps p.tables e below (s₁.setTop (mkF m 12 #[.val (.int p1), .val (.long q2), .second, .val (.long q3), .second, .val (.long q4), .second, .val (.int p5), .val (.int p6), .val (.int (own_bd p1)), .unset, .unset, .unset, .unset, .unset, .unset, .unset] [(.int ((p1.toUInt32 >>> ((2 : Int32) &&& 31).toUInt32).toInt32))])) _
    refine XS.iconst X0.here hx rfl (hb hby at_12) ?_
    show Steps p.tables e below (s₁.setTop (mkF m 13 #[.val (.int p1), .val (.long q2), .second, .val (.long q3), .second, .val (.long q4), .second, .val (.int p5), .val (.int p6), .val (.int (own_bd p1)), .unset, .unset, .unset, .unset, .unset, .unset, .unset] [(.int (3 : Int32)), (.int ((p1.toUInt32 >>> ((2 : Int32) &&& 31).toUInt32).toInt32))])) _
    refine XS.iand X0.here hx rfl (hb hby at_13) rfl ?_
    show Steps p.tables e below (s₁.setTop (mkF m 14 #[.val (.int p1), .val (.long q2), .second, .val (.long q3), .second, .val (.long q4), .second, .val (.int p5), .val (.int p6), .val (.int (own_bd p1)), .unset, .unset, .unset, .unset, .unset, .unset, .unset] [(.int (((p1.toUInt32 >>> ((2 : Int32) &&& 31).toUInt32).toInt32) &&& (3 : Int32)))])) _
    refine XS.iconst X0.here hx rfl (hb hby at_14) ?_
    show Steps p.tables e below (s₁.setTop (mkF m 15 #[.val (.int p1), .val (.long q2), .second, .val (.long q3), .second, .val (.long q4), .second, .val (.int p5), .val (.int p6), .val (.int (own_bd p1)), .unset, .unset, .unset, .unset, .unset, .unset, .unset] [(.int (3 : Int32)), (.int (((p1.toUInt32 >>> ((2 : Int32) &&& 31).toUInt32).toInt32) &&& (3 : Int32)))])) _
    refine iremM X0 hx rfl (hb hby at_15) rfl (by decide) ?_
    show Steps p.tables e below (s₁.setTop (mkF m 16 #[.val (.int p1), .val (.long q2), .second, .val (.long q3), .second, .val (.long q4), .second, .val (.int p5), .val (.int p6), .val (.int (own_bd p1)), .unset, .unset, .unset, .unset, .unset, .unset, .unset] [(.int (own_fs p1))])) _
    refine XS.istore X0.here hx rfl (hb hby at_16) rfl (l' := #[.val (.int p1), .val (.long q2), .second, .val (.long q3), .second, .val (.long q4), .second, .val (.int p5), .val (.int p6), .val (.int (own_bd p1)), .val (.int (own_fs p1)), .unset, .unset, .unset, .unset, .unset, .unset]) rfl ?_
    show Steps p.tables e below (s₁.setTop (mkF m 18 #[.val (.int p1), .val (.long q2), .second, .val (.long q3), .second, .val (.long q4), .second, .val (.int p5), .val (.int p6), .val (.int (own_bd p1)), .val (.int (own_fs p1)), .unset, .unset, .unset, .unset, .unset, .unset] [])) _
    refine XS.iloadN X0.here hx rfl (hb hby at_18) rfl ?_
    show Steps p.tables e below (s₁.setTop (mkF m 19 #[.val (.int p1), .val (.long q2), .second, .val (.long q3), .second, .val (.long q4), .second, .val (.int p5), .val (.int p6), .val (.int (own_bd p1)), .val (.int (own_fs p1)), .unset, .unset, .unset, .unset, .unset, .unset] [(.int p1)])) _
    refine XS.iconst X0.here hx rfl (hb hby at_19) ?_
    show Steps p.tables e below (s₁.setTop (mkF m 20 #[.val (.int p1), .val (.long q2), .second, .val (.long q3), .second, .val (.long q4), .second, .val (.int p5), .val (.int p6), .val (.int (own_bd p1)), .val (.int (own_fs p1)), .unset, .unset, .unset, .unset, .unset, .unset] [(.int (4 : Int32)), (.int p1)])) _
    refine XS.iushr X0.here hx rfl (hb hby at_20) rfl ?_
    show Steps p.tables e below (s₁.setTop (mkF m 21 #[.val (.int p1), .val (.long q2), .second, .val (.long q3), .second, .val (.long q4), .second, .val (.int p5), .val (.int p6), .val (.int (own_bd p1)), .val (.int (own_fs p1)), .unset, .unset, .unset, .unset, .unset, .unset] [(.int ((p1.toUInt32 >>> ((4 : Int32) &&& 31).toUInt32).toInt32))])) _
    refine XS.iconst X0.here hx rfl (hb hby at_21) ?_
    show Steps p.tables e below (s₁.setTop (mkF m 22 #[.val (.int p1), .val (.long q2), .second, .val (.long q3), .second, .val (.long q4), .second, .val (.int p5), .val (.int p6), .val (.int (own_bd p1)), .val (.int (own_fs p1)), .unset, .unset, .unset, .unset, .unset, .unset] [(.int (1 : Int32)), (.int ((p1.toUInt32 >>> ((4 : Int32) &&& 31).toUInt32).toInt32))])) _
    refine XS.iand X0.here hx rfl (hb hby at_22) rfl ?_
    show Steps p.tables e below (s₁.setTop (mkF m 23 #[.val (.int p1), .val (.long q2), .second, .val (.long q3), .second, .val (.long q4), .second, .val (.int p5), .val (.int p6), .val (.int (own_bd p1)), .val (.int (own_fs p1)), .unset, .unset, .unset, .unset, .unset, .unset] [(.int (own_bf p1))])) _
    refine XS.istore X0.here hx rfl (hb hby at_23) rfl (l' := #[.val (.int p1), .val (.long q2), .second, .val (.long q3), .second, .val (.long q4), .second, .val (.int p5), .val (.int p6), .val (.int (own_bd p1)), .val (.int (own_fs p1)), .val (.int (own_bf p1)), .unset, .unset, .unset, .unset, .unset]) rfl ?_
    show Steps p.tables e below (s₁.setTop (mkF m 25 #[.val (.int p1), .val (.long q2), .second, .val (.long q3), .second, .val (.long q4), .second, .val (.int p5), .val (.int p6), .val (.int (own_bd p1)), .val (.int (own_fs p1)), .val (.int (own_bf p1)), .unset, .unset, .unset, .unset, .unset] [])) _
    refine XS.bipush X0.here hx rfl (hb hby at_25) ?_
    show Steps p.tables e below (s₁.setTop (mkF m 27 #[.val (.int p1), .val (.long q2), .second, .val (.long q3), .second, .val (.long q4), .second, .val (.int p5), .val (.int p6), .val (.int (own_bd p1)), .val (.int (own_fs p1)), .val (.int (own_bf p1)), .unset, .unset, .unset, .unset, .unset] [(.int (8 : Int32))])) _
    refine st1 _ ?_
    show Steps p.tables e below (T1.setTop (mkF m 29 #[.val (.int p1), .val (.long q2), .second, .val (.long q3), .second, .val (.long q4), .second, .val (.int p5), .val (.int p6), .val (.int (own_bd p1)), .val (.int (own_fs p1)), .val (.int (own_bf p1)), .unset, .unset, .unset, .unset, .unset] [(.ref b1)])) _
    refine XS.astore X1.here hx rfl (hb hby at_29) rfl rfl (l' := #[.val (.int p1), .val (.long q2), .second, .val (.long q3), .second, .val (.long q4), .second, .val (.int p5), .val (.int p6), .val (.int (own_bd p1)), .val (.int (own_fs p1)), .val (.int (own_bf p1)), .val (.ref b1), .unset, .unset, .unset, .unset]) rfl ?_
    show Steps p.tables e below (T1.setTop (mkF m 31 #[.val (.int p1), .val (.long q2), .second, .val (.long q3), .second, .val (.long q4), .second, .val (.int p5), .val (.int p6), .val (.int (own_bd p1)), .val (.int (own_fs p1)), .val (.int (own_bf p1)), .val (.ref b1), .unset, .unset, .unset, .unset] [])) _
    refine XS.aload X1.here hx rfl (hb hby at_31) rfl rfl ?_
    show Steps p.tables e below (T1.setTop (mkF m 33 #[.val (.int p1), .val (.long q2), .second, .val (.long q3), .second, .val (.long q4), .second, .val (.int p5), .val (.int p6), .val (.int (own_bd p1)), .val (.int (own_fs p1)), .val (.int (own_bf p1)), .val (.ref b1), .unset, .unset, .unset, .unset] [(.ref b1)])) _
    refine XS.iconst X1.here hx rfl (hb hby at_33) ?_
    show Steps p.tables e below (T1.setTop (mkF m 34 #[.val (.int p1), .val (.long q2), .second, .val (.long q3), .second, .val (.long q4), .second, .val (.int p5), .val (.int p6), .val (.int (own_bd p1)), .val (.int (own_fs p1)), .val (.int (own_bf p1)), .val (.ref b1), .unset, .unset, .unset, .unset] [(.int (0 : Int32)), (.ref b1)])) _
    refine XS.lloadN X1.here hx rfl (hb hby at_34) rfl ?_
    show Steps p.tables e below (T1.setTop (mkF m 35 #[.val (.int p1), .val (.long q2), .second, .val (.long q3), .second, .val (.long q4), .second, .val (.int p5), .val (.int p6), .val (.int (own_bd p1)), .val (.int (own_fs p1)), .val (.int (own_bf p1)), .val (.ref b1), .unset, .unset, .unset, .unset] [(.long q2), (.int (0 : Int32)), (.ref b1)])) _
    refine XS.l2i X1.here hx rfl (hb hby at_35) rfl ?_
    show Steps p.tables e below (T1.setTop (mkF m 36 #[.val (.int p1), .val (.long q2), .second, .val (.long q3), .second, .val (.long q4), .second, .val (.int p5), .val (.int p6), .val (.int (own_bd p1)), .val (.int (own_fs p1)), .val (.int (own_bf p1)), .val (.ref b1), .unset, .unset, .unset, .unset] [(.int (q2.toInt32)), (.int (0 : Int32)), (.ref b1)])) _
    refine st3 _ ?_
    show Steps p.tables e below (T3.setTop (mkF m 37 #[.val (.int p1), .val (.long q2), .second, .val (.long q3), .second, .val (.long q4), .second, .val (.int p5), .val (.int p6), .val (.int (own_bd p1)), .val (.int (own_fs p1)), .val (.int (own_bf p1)), .val (.ref b1), .unset, .unset, .unset, .unset] [])) _
    refine XS.aload X3.here hx rfl (hb hby at_37) rfl rfl ?_
    show Steps p.tables e below (T3.setTop (mkF m 39 #[.val (.int p1), .val (.long q2), .second, .val (.long q3), .second, .val (.long q4), .second, .val (.int p5), .val (.int p6), .val (.int (own_bd p1)), .val (.int (own_fs p1)), .val (.int (own_bf p1)), .val (.ref b1), .unset, .unset, .unset, .unset] [(.ref b1)])) _
    refine XS.iconst X3.here hx rfl (hb hby at_39) ?_
    show Steps p.tables e below (T3.setTop (mkF m 40 #[.val (.int p1), .val (.long q2), .second, .val (.long q3), .second, .val (.long q4), .second, .val (.int p5), .val (.int p6), .val (.int (own_bd p1)), .val (.int (own_fs p1)), .val (.int (own_bf p1)), .val (.ref b1), .unset, .unset, .unset, .unset] [(.int (1 : Int32)), (.ref b1)])) _
    refine XS.lloadN X3.here hx rfl (hb hby at_40) rfl ?_
    show Steps p.tables e below (T3.setTop (mkF m 41 #[.val (.int p1), .val (.long q2), .second, .val (.long q3), .second, .val (.long q4), .second, .val (.int p5), .val (.int p6), .val (.int (own_bd p1)), .val (.int (own_fs p1)), .val (.int (own_bf p1)), .val (.ref b1), .unset, .unset, .unset, .unset] [(.long q2), (.int (1 : Int32)), (.ref b1)])) _
    refine XS.bipush X3.here hx rfl (hb hby at_41) ?_
    show Steps p.tables e below (T3.setTop (mkF m 43 #[.val (.int p1), .val (.long q2), .second, .val (.long q3), .second, .val (.long q4), .second, .val (.int p5), .val (.int p6), .val (.int (own_bd p1)), .val (.int (own_fs p1)), .val (.int (own_bf p1)), .val (.ref b1), .unset, .unset, .unset, .unset] [(.int (32 : Int32)), (.long q2), (.int (1 : Int32)), (.ref b1)])) _
    refine XS.lushr X3.here hx rfl (hb hby at_43) rfl ?_
    show Steps p.tables e below (T3.setTop (mkF m 44 #[.val (.int p1), .val (.long q2), .second, .val (.long q3), .second, .val (.long q4), .second, .val (.int p5), .val (.int p6), .val (.int (own_bd p1)), .val (.int (own_fs p1)), .val (.int (own_bf p1)), .val (.ref b1), .unset, .unset, .unset, .unset] [(.long ((q2.toUInt64 >>> ((32 : Int32) &&& 0x3f).toInt64.toUInt64).toInt64)), (.int (1 : Int32)), (.ref b1)])) _
    refine XS.l2i X3.here hx rfl (hb hby at_44) rfl ?_
    show Steps p.tables e below (T3.setTop (mkF m 45 #[.val (.int p1), .val (.long q2), .second, .val (.long q3), .second, .val (.long q4), .second, .val (.int p5), .val (.int p6), .val (.int (own_bd p1)), .val (.int (own_fs p1)), .val (.int (own_bf p1)), .val (.ref b1), .unset, .unset, .unset, .unset] [(.int (((q2.toUInt64 >>> ((32 : Int32) &&& 0x3f).toInt64.toUInt64).toInt64).toInt32)), (.int (1 : Int32)), (.ref b1)])) _
    refine st5 _ ?_
    show Steps p.tables e below (T5.setTop (mkF m 46 #[.val (.int p1), .val (.long q2), .second, .val (.long q3), .second, .val (.long q4), .second, .val (.int p5), .val (.int p6), .val (.int (own_bd p1)), .val (.int (own_fs p1)), .val (.int (own_bf p1)), .val (.ref b1), .unset, .unset, .unset, .unset] [])) _
    refine XS.aload X5.here hx rfl (hb hby at_46) rfl rfl ?_
    show Steps p.tables e below (T5.setTop (mkF m 48 #[.val (.int p1), .val (.long q2), .second, .val (.long q3), .second, .val (.long q4), .second, .val (.int p5), .val (.int p6), .val (.int (own_bd p1)), .val (.int (own_fs p1)), .val (.int (own_bf p1)), .val (.ref b1), .unset, .unset, .unset, .unset] [(.ref b1)])) _
    refine XS.iconst X5.here hx rfl (hb hby at_48) ?_
    show Steps p.tables e below (T5.setTop (mkF m 49 #[.val (.int p1), .val (.long q2), .second, .val (.long q3), .second, .val (.long q4), .second, .val (.int p5), .val (.int p6), .val (.int (own_bd p1)), .val (.int (own_fs p1)), .val (.int (own_bf p1)), .val (.ref b1), .unset, .unset, .unset, .unset] [(.int (2 : Int32)), (.ref b1)])) _
    refine XS.lloadN X5.here hx rfl (hb hby at_49) rfl ?_
    show Steps p.tables e below (T5.setTop (mkF m 50 #[.val (.int p1), .val (.long q2), .second, .val (.long q3), .second, .val (.long q4), .second, .val (.int p5), .val (.int p6), .val (.int (own_bd p1)), .val (.int (own_fs p1)), .val (.int (own_bf p1)), .val (.ref b1), .unset, .unset, .unset, .unset] [(.long q3), (.int (2 : Int32)), (.ref b1)])) _
    refine XS.l2i X5.here hx rfl (hb hby at_50) rfl ?_
    show Steps p.tables e below (T5.setTop (mkF m 51 #[.val (.int p1), .val (.long q2), .second, .val (.long q3), .second, .val (.long q4), .second, .val (.int p5), .val (.int p6), .val (.int (own_bd p1)), .val (.int (own_fs p1)), .val (.int (own_bf p1)), .val (.ref b1), .unset, .unset, .unset, .unset] [(.int (q3.toInt32)), (.int (2 : Int32)), (.ref b1)])) _
    refine st7 _ ?_
    show Steps p.tables e below (T7.setTop (mkF m 52 #[.val (.int p1), .val (.long q2), .second, .val (.long q3), .second, .val (.long q4), .second, .val (.int p5), .val (.int p6), .val (.int (own_bd p1)), .val (.int (own_fs p1)), .val (.int (own_bf p1)), .val (.ref b1), .unset, .unset, .unset, .unset] [])) _
    refine XS.aload X7.here hx rfl (hb hby at_52) rfl rfl ?_
    show Steps p.tables e below (T7.setTop (mkF m 54 #[.val (.int p1), .val (.long q2), .second, .val (.long q3), .second, .val (.long q4), .second, .val (.int p5), .val (.int p6), .val (.int (own_bd p1)), .val (.int (own_fs p1)), .val (.int (own_bf p1)), .val (.ref b1), .unset, .unset, .unset, .unset] [(.ref b1)])) _
    refine XS.iconst X7.here hx rfl (hb hby at_54) ?_
    show Steps p.tables e below (T7.setTop (mkF m 55 #[.val (.int p1), .val (.long q2), .second, .val (.long q3), .second, .val (.long q4), .second, .val (.int p5), .val (.int p6), .val (.int (own_bd p1)), .val (.int (own_fs p1)), .val (.int (own_bf p1)), .val (.ref b1), .unset, .unset, .unset, .unset] [(.int (3 : Int32)), (.ref b1)])) _
    refine XS.lloadN X7.here hx rfl (hb hby at_55) rfl ?_
    show Steps p.tables e below (T7.setTop (mkF m 56 #[.val (.int p1), .val (.long q2), .second, .val (.long q3), .second, .val (.long q4), .second, .val (.int p5), .val (.int p6), .val (.int (own_bd p1)), .val (.int (own_fs p1)), .val (.int (own_bf p1)), .val (.ref b1), .unset, .unset, .unset, .unset] [(.long q3), (.int (3 : Int32)), (.ref b1)])) _
    refine XS.bipush X7.here hx rfl (hb hby at_56) ?_
    show Steps p.tables e below (T7.setTop (mkF m 58 #[.val (.int p1), .val (.long q2), .second, .val (.long q3), .second, .val (.long q4), .second, .val (.int p5), .val (.int p6), .val (.int (own_bd p1)), .val (.int (own_fs p1)), .val (.int (own_bf p1)), .val (.ref b1), .unset, .unset, .unset, .unset] [(.int (32 : Int32)), (.long q3), (.int (3 : Int32)), (.ref b1)])) _
    refine XS.lushr X7.here hx rfl (hb hby at_58) rfl ?_
    show Steps p.tables e below (T7.setTop (mkF m 59 #[.val (.int p1), .val (.long q2), .second, .val (.long q3), .second, .val (.long q4), .second, .val (.int p5), .val (.int p6), .val (.int (own_bd p1)), .val (.int (own_fs p1)), .val (.int (own_bf p1)), .val (.ref b1), .unset, .unset, .unset, .unset] [(.long ((q3.toUInt64 >>> ((32 : Int32) &&& 0x3f).toInt64.toUInt64).toInt64)), (.int (3 : Int32)), (.ref b1)])) _
    refine XS.l2i X7.here hx rfl (hb hby at_59) rfl ?_
    show Steps p.tables e below (T7.setTop (mkF m 60 #[.val (.int p1), .val (.long q2), .second, .val (.long q3), .second, .val (.long q4), .second, .val (.int p5), .val (.int p6), .val (.int (own_bd p1)), .val (.int (own_fs p1)), .val (.int (own_bf p1)), .val (.ref b1), .unset, .unset, .unset, .unset] [(.int (((q3.toUInt64 >>> ((32 : Int32) &&& 0x3f).toInt64.toUInt64).toInt64).toInt32)), (.int (3 : Int32)), (.ref b1)])) _
    refine st9 _ ?_
    show Steps p.tables e below (T9.setTop (mkF m 61 #[.val (.int p1), .val (.long q2), .second, .val (.long q3), .second, .val (.long q4), .second, .val (.int p5), .val (.int p6), .val (.int (own_bd p1)), .val (.int (own_fs p1)), .val (.int (own_bf p1)), .val (.ref b1), .unset, .unset, .unset, .unset] [])) _
    refine XS.aload X9.here hx rfl (hb hby at_61) rfl rfl ?_
    show Steps p.tables e below (T9.setTop (mkF m 63 #[.val (.int p1), .val (.long q2), .second, .val (.long q3), .second, .val (.long q4), .second, .val (.int p5), .val (.int p6), .val (.int (own_bd p1)), .val (.int (own_fs p1)), .val (.int (own_bf p1)), .val (.ref b1), .unset, .unset, .unset, .unset] [(.ref b1)])) _
    refine XS.iconst X9.here hx rfl (hb hby at_63) ?_
    show Steps p.tables e below (T9.setTop (mkF m 64 #[.val (.int p1), .val (.long q2), .second, .val (.long q3), .second, .val (.long q4), .second, .val (.int p5), .val (.int p6), .val (.int (own_bd p1)), .val (.int (own_fs p1)), .val (.int (own_bf p1)), .val (.ref b1), .unset, .unset, .unset, .unset] [(.int (4 : Int32)), (.ref b1)])) _
    refine XS.lload X9.here hx rfl (hb hby at_64) rfl ?_
    show Steps p.tables e below (T9.setTop (mkF m 66 #[.val (.int p1), .val (.long q2), .second, .val (.long q3), .second, .val (.long q4), .second, .val (.int p5), .val (.int p6), .val (.int (own_bd p1)), .val (.int (own_fs p1)), .val (.int (own_bf p1)), .val (.ref b1), .unset, .unset, .unset, .unset] [(.long q4), (.int (4 : Int32)), (.ref b1)])) _
    refine XS.l2i X9.here hx rfl (hb hby at_66) rfl ?_
    show Steps p.tables e below (T9.setTop (mkF m 67 #[.val (.int p1), .val (.long q2), .second, .val (.long q3), .second, .val (.long q4), .second, .val (.int p5), .val (.int p6), .val (.int (own_bd p1)), .val (.int (own_fs p1)), .val (.int (own_bf p1)), .val (.ref b1), .unset, .unset, .unset, .unset] [(.int (q4.toInt32)), (.int (4 : Int32)), (.ref b1)])) _
    refine st11 _ ?_
    show Steps p.tables e below (T11.setTop (mkF m 68 #[.val (.int p1), .val (.long q2), .second, .val (.long q3), .second, .val (.long q4), .second, .val (.int p5), .val (.int p6), .val (.int (own_bd p1)), .val (.int (own_fs p1)), .val (.int (own_bf p1)), .val (.ref b1), .unset, .unset, .unset, .unset] [])) _
    refine XS.aload X11.here hx rfl (hb hby at_68) rfl rfl ?_
    show Steps p.tables e below (T11.setTop (mkF m 70 #[.val (.int p1), .val (.long q2), .second, .val (.long q3), .second, .val (.long q4), .second, .val (.int p5), .val (.int p6), .val (.int (own_bd p1)), .val (.int (own_fs p1)), .val (.int (own_bf p1)), .val (.ref b1), .unset, .unset, .unset, .unset] [(.ref b1)])) _
    refine XS.iconst X11.here hx rfl (hb hby at_70) ?_
    show Steps p.tables e below (T11.setTop (mkF m 71 #[.val (.int p1), .val (.long q2), .second, .val (.long q3), .second, .val (.long q4), .second, .val (.int p5), .val (.int p6), .val (.int (own_bd p1)), .val (.int (own_fs p1)), .val (.int (own_bf p1)), .val (.ref b1), .unset, .unset, .unset, .unset] [(.int (5 : Int32)), (.ref b1)])) _
    refine XS.lload X11.here hx rfl (hb hby at_71) rfl ?_
    show Steps p.tables e below (T11.setTop (mkF m 73 #[.val (.int p1), .val (.long q2), .second, .val (.long q3), .second, .val (.long q4), .second, .val (.int p5), .val (.int p6), .val (.int (own_bd p1)), .val (.int (own_fs p1)), .val (.int (own_bf p1)), .val (.ref b1), .unset, .unset, .unset, .unset] [(.long q4), (.int (5 : Int32)), (.ref b1)])) _
    refine XS.bipush X11.here hx rfl (hb hby at_73) ?_
    show Steps p.tables e below (T11.setTop (mkF m 75 #[.val (.int p1), .val (.long q2), .second, .val (.long q3), .second, .val (.long q4), .second, .val (.int p5), .val (.int p6), .val (.int (own_bd p1)), .val (.int (own_fs p1)), .val (.int (own_bf p1)), .val (.ref b1), .unset, .unset, .unset, .unset] [(.int (32 : Int32)), (.long q4), (.int (5 : Int32)), (.ref b1)])) _
    refine XS.lushr X11.here hx rfl (hb hby at_75) rfl ?_
    show Steps p.tables e below (T11.setTop (mkF m 76 #[.val (.int p1), .val (.long q2), .second, .val (.long q3), .second, .val (.long q4), .second, .val (.int p5), .val (.int p6), .val (.int (own_bd p1)), .val (.int (own_fs p1)), .val (.int (own_bf p1)), .val (.ref b1), .unset, .unset, .unset, .unset] [(.long ((q4.toUInt64 >>> ((32 : Int32) &&& 0x3f).toInt64.toUInt64).toInt64)), (.int (5 : Int32)), (.ref b1)])) _
    refine XS.l2i X11.here hx rfl (hb hby at_76) rfl ?_
    show Steps p.tables e below (T11.setTop (mkF m 77 #[.val (.int p1), .val (.long q2), .second, .val (.long q3), .second, .val (.long q4), .second, .val (.int p5), .val (.int p6), .val (.int (own_bd p1)), .val (.int (own_fs p1)), .val (.int (own_bf p1)), .val (.ref b1), .unset, .unset, .unset, .unset] [(.int (((q4.toUInt64 >>> ((32 : Int32) &&& 0x3f).toInt64.toUInt64).toInt64).toInt32)), (.int (5 : Int32)), (.ref b1)])) _
    refine st13 _ ?_
    show Steps p.tables e below (T13.setTop (mkF m 78 #[.val (.int p1), .val (.long q2), .second, .val (.long q3), .second, .val (.long q4), .second, .val (.int p5), .val (.int p6), .val (.int (own_bd p1)), .val (.int (own_fs p1)), .val (.int (own_bf p1)), .val (.ref b1), .unset, .unset, .unset, .unset] [])) _
    refine XS.aload X13.here hx rfl (hb hby at_78) rfl rfl ?_
    show Steps p.tables e below (T13.setTop (mkF m 80 #[.val (.int p1), .val (.long q2), .second, .val (.long q3), .second, .val (.long q4), .second, .val (.int p5), .val (.int p6), .val (.int (own_bd p1)), .val (.int (own_fs p1)), .val (.int (own_bf p1)), .val (.ref b1), .unset, .unset, .unset, .unset] [(.ref b1)])) _
    refine XS.bipush X13.here hx rfl (hb hby at_80) ?_
    show Steps p.tables e below (T13.setTop (mkF m 82 #[.val (.int p1), .val (.long q2), .second, .val (.long q3), .second, .val (.long q4), .second, .val (.int p5), .val (.int p6), .val (.int (own_bd p1)), .val (.int (own_fs p1)), .val (.int (own_bf p1)), .val (.ref b1), .unset, .unset, .unset, .unset] [(.int (6 : Int32)), (.ref b1)])) _
    refine XS.iload X13.here hx rfl (hb hby at_82) rfl ?_
    show Steps p.tables e below (T13.setTop (mkF m 84 #[.val (.int p1), .val (.long q2), .second, .val (.long q3), .second, .val (.long q4), .second, .val (.int p5), .val (.int p6), .val (.int (own_bd p1)), .val (.int (own_fs p1)), .val (.int (own_bf p1)), .val (.ref b1), .unset, .unset, .unset, .unset] [(.int p5), (.int (6 : Int32)), (.ref b1)])) _
    refine st15 _ ?_
    show Steps p.tables e below (T15.setTop (mkF m 85 #[.val (.int p1), .val (.long q2), .second, .val (.long q3), .second, .val (.long q4), .second, .val (.int p5), .val (.int p6), .val (.int (own_bd p1)), .val (.int (own_fs p1)), .val (.int (own_bf p1)), .val (.ref b1), .unset, .unset, .unset, .unset] [])) _
    refine XS.aload X15.here hx rfl (hb hby at_85) rfl rfl ?_
    show Steps p.tables e below (T15.setTop (mkF m 87 #[.val (.int p1), .val (.long q2), .second, .val (.long q3), .second, .val (.long q4), .second, .val (.int p5), .val (.int p6), .val (.int (own_bd p1)), .val (.int (own_fs p1)), .val (.int (own_bf p1)), .val (.ref b1), .unset, .unset, .unset, .unset] [(.ref b1)])) _
    refine XS.bipush X15.here hx rfl (hb hby at_87) ?_
    show Steps p.tables e below (T15.setTop (mkF m 89 #[.val (.int p1), .val (.long q2), .second, .val (.long q3), .second, .val (.long q4), .second, .val (.int p5), .val (.int p6), .val (.int (own_bd p1)), .val (.int (own_fs p1)), .val (.int (own_bf p1)), .val (.ref b1), .unset, .unset, .unset, .unset] [(.int (7 : Int32)), (.ref b1)])) _
    refine XS.iload X15.here hx rfl (hb hby at_89) rfl ?_
    show Steps p.tables e below (T15.setTop (mkF m 91 #[.val (.int p1), .val (.long q2), .second, .val (.long q3), .second, .val (.long q4), .second, .val (.int p5), .val (.int p6), .val (.int (own_bd p1)), .val (.int (own_fs p1)), .val (.int (own_bf p1)), .val (.ref b1), .unset, .unset, .unset, .unset] [(.int p6), (.int (7 : Int32)), (.ref b1)])) _
    refine st17 _ ?_
    show Steps p.tables e below (T17.setTop (mkF m 92 #[.val (.int p1), .val (.long q2), .second, .val (.long q3), .second, .val (.long q4), .second, .val (.int p5), .val (.int p6), .val (.int (own_bd p1)), .val (.int (own_fs p1)), .val (.int (own_bf p1)), .val (.ref b1), .unset, .unset, .unset, .unset] [])) _
    refine XS.bipush X17.here hx rfl (hb hby at_92) ?_
    show Steps p.tables e below (T17.setTop (mkF m 94 #[.val (.int p1), .val (.long q2), .second, .val (.long q3), .second, .val (.long q4), .second, .val (.int p5), .val (.int p6), .val (.int (own_bd p1)), .val (.int (own_fs p1)), .val (.int (own_bf p1)), .val (.ref b1), .unset, .unset, .unset, .unset] [(.int (8 : Int32))])) _
    refine st18 _ ?_
    show Steps p.tables e below (T18.setTop (mkF m 96 #[.val (.int p1), .val (.long q2), .second, .val (.long q3), .second, .val (.long q4), .second, .val (.int p5), .val (.int p6), .val (.int (own_bd p1)), .val (.int (own_fs p1)), .val (.int (own_bf p1)), .val (.ref b1), .unset, .unset, .unset, .unset] [(.ref b18)])) _
    refine XS.astore X18.here hx rfl (hb hby at_96) rfl rfl (l' := #[.val (.int p1), .val (.long q2), .second, .val (.long q3), .second, .val (.long q4), .second, .val (.int p5), .val (.int p6), .val (.int (own_bd p1)), .val (.int (own_fs p1)), .val (.int (own_bf p1)), .val (.ref b1), .val (.ref b18), .unset, .unset, .unset]) rfl ?_
    show Steps p.tables e below (T18.setTop (mkF m 98 #[.val (.int p1), .val (.long q2), .second, .val (.long q3), .second, .val (.long q4), .second, .val (.int p5), .val (.int p6), .val (.int (own_bd p1)), .val (.int (own_fs p1)), .val (.int (own_bf p1)), .val (.ref b1), .val (.ref b18), .unset, .unset, .unset] [])) _
    refine XS.aload X18.here hx rfl (hb hby at_98) rfl rfl ?_
    show Steps p.tables e below (T18.setTop (mkF m 100 #[.val (.int p1), .val (.long q2), .second, .val (.long q3), .second, .val (.long q4), .second, .val (.int p5), .val (.int p6), .val (.int (own_bd p1)), .val (.int (own_fs p1)), .val (.int (own_bf p1)), .val (.ref b1), .val (.ref b18), .unset, .unset, .unset] [(.ref b18)])) _
    refine XS.iconst X18.here hx rfl (hb hby at_100) ?_
    show Steps p.tables e below (T18.setTop (mkF m 101 #[.val (.int p1), .val (.long q2), .second, .val (.long q3), .second, .val (.long q4), .second, .val (.int p5), .val (.int p6), .val (.int (own_bd p1)), .val (.int (own_fs p1)), .val (.int (own_bf p1)), .val (.ref b1), .val (.ref b18), .unset, .unset, .unset] [(.int (0 : Int32)), (.ref b18)])) _
    refine XS.aload X18.here hx rfl (hb hby at_101) rfl rfl ?_
    show Steps p.tables e below (T18.setTop (mkF m 103 #[.val (.int p1), .val (.long q2), .second, .val (.long q3), .second, .val (.long q4), .second, .val (.int p5), .val (.int p6), .val (.int (own_bd p1)), .val (.int (own_fs p1)), .val (.int (own_bf p1)), .val (.ref b1), .val (.ref b18), .unset, .unset, .unset] [(.ref b1), (.int (0 : Int32)), (.ref b18)])) _
    refine XS.iconst X18.here hx rfl (hb hby at_103) ?_
    show Steps p.tables e below (T18.setTop (mkF m 104 #[.val (.int p1), .val (.long q2), .second, .val (.long q3), .second, .val (.long q4), .second, .val (.int p5), .val (.int p6), .val (.int (own_bd p1)), .val (.int (own_fs p1)), .val (.int (own_bf p1)), .val (.ref b1), .val (.ref b18), .unset, .unset, .unset] [(.int (0 : Int32)), (.ref b1), (.int (0 : Int32)), (.ref b18)])) _
    refine X18.iaload hx (j := (0 : Int32)) (v := (.int (q2.toInt32))) (by rw [e18]; exact Ar19.1) (State.isArrayOf_alike hZ.alike Ar19.2.1) Ar19.2.2 hin19 hat19 (g := (mkF m 104 #[.val (.int p1), .val (.long q2), .second, .val (.long q3), .second, .val (.long q4), .second, .val (.int p5), .val (.int p6), .val (.int (own_bd p1)), .val (.int (own_fs p1)), .val (.int (own_bf p1)), .val (.ref b1), .val (.ref b18), .unset, .unset, .unset] [(.int (0 : Int32)), (.ref b1), (.int (0 : Int32)), (.ref b18)])) rfl rfl (hb hby at_104) _ ?_
    show Steps p.tables e below (T18.setTop (mkF m 105 #[.val (.int p1), .val (.long q2), .second, .val (.long q3), .second, .val (.long q4), .second, .val (.int p5), .val (.int p6), .val (.int (own_bd p1)), .val (.int (own_fs p1)), .val (.int (own_bf p1)), .val (.ref b1), .val (.ref b18), .unset, .unset, .unset] [(.int (q2.toInt32)), (.int (0 : Int32)), (.ref b18)])) _
    refine st22 _ ?_
    show Steps p.tables e below (T22.setTop (mkF m 106 #[.val (.int p1), .val (.long q2), .second, .val (.long q3), .second, .val (.long q4), .second, .val (.int p5), .val (.int p6), .val (.int (own_bd p1)), .val (.int (own_fs p1)), .val (.int (own_bf p1)), .val (.ref b1), .val (.ref b18), .unset, .unset, .unset] [])) _
    refine XS.aload X22.here hx rfl (hb hby at_106) rfl rfl ?_
    show Steps p.tables e below (T22.setTop (mkF m 108 #[.val (.int p1), .val (.long q2), .second, .val (.long q3), .second, .val (.long q4), .second, .val (.int p5), .val (.int p6), .val (.int (own_bd p1)), .val (.int (own_fs p1)), .val (.int (own_bf p1)), .val (.ref b1), .val (.ref b18), .unset, .unset, .unset] [(.ref b18)])) _
    refine XS.iconst X22.here hx rfl (hb hby at_108) ?_
    show Steps p.tables e below (T22.setTop (mkF m 109 #[.val (.int p1), .val (.long q2), .second, .val (.long q3), .second, .val (.long q4), .second, .val (.int p5), .val (.int p6), .val (.int (own_bd p1)), .val (.int (own_fs p1)), .val (.int (own_bf p1)), .val (.ref b1), .val (.ref b18), .unset, .unset, .unset] [(.int (1 : Int32)), (.ref b18)])) _
    refine XS.aload X22.here hx rfl (hb hby at_109) rfl rfl ?_
    show Steps p.tables e below (T22.setTop (mkF m 111 #[.val (.int p1), .val (.long q2), .second, .val (.long q3), .second, .val (.long q4), .second, .val (.int p5), .val (.int p6), .val (.int (own_bd p1)), .val (.int (own_fs p1)), .val (.int (own_bf p1)), .val (.ref b1), .val (.ref b18), .unset, .unset, .unset] [(.ref b1), (.int (1 : Int32)), (.ref b18)])) _
    refine XS.iconst X22.here hx rfl (hb hby at_111) ?_
    show Steps p.tables e below (T22.setTop (mkF m 112 #[.val (.int p1), .val (.long q2), .second, .val (.long q3), .second, .val (.long q4), .second, .val (.int p5), .val (.int p6), .val (.int (own_bd p1)), .val (.int (own_fs p1)), .val (.int (own_bf p1)), .val (.ref b1), .val (.ref b18), .unset, .unset, .unset] [(.int (1 : Int32)), (.ref b1), (.int (1 : Int32)), (.ref b18)])) _
    refine X22.iaload hx (j := (1 : Int32)) (v := (.int (((q2.toUInt64 >>> ((32 : Int32) &&& 0x3f).toInt64.toUInt64).toInt64).toInt32))) (by rw [e22]; exact Ar23.1) (State.isArrayOf_alike hZ.alike Ar23.2.1) Ar23.2.2 hin23 hat23 (g := (mkF m 112 #[.val (.int p1), .val (.long q2), .second, .val (.long q3), .second, .val (.long q4), .second, .val (.int p5), .val (.int p6), .val (.int (own_bd p1)), .val (.int (own_fs p1)), .val (.int (own_bf p1)), .val (.ref b1), .val (.ref b18), .unset, .unset, .unset] [(.int (1 : Int32)), (.ref b1), (.int (1 : Int32)), (.ref b18)])) rfl rfl (hb hby at_112) _ ?_
    show Steps p.tables e below (T22.setTop (mkF m 113 #[.val (.int p1), .val (.long q2), .second, .val (.long q3), .second, .val (.long q4), .second, .val (.int p5), .val (.int p6), .val (.int (own_bd p1)), .val (.int (own_fs p1)), .val (.int (own_bf p1)), .val (.ref b1), .val (.ref b18), .unset, .unset, .unset] [(.int (((q2.toUInt64 >>> ((32 : Int32) &&& 0x3f).toInt64.toUInt64).toInt64).toInt32)), (.int (1 : Int32)), (.ref b18)])) _
    refine st26 _ ?_
    show Steps p.tables e below (T26.setTop (mkF m 114 #[.val (.int p1), .val (.long q2), .second, .val (.long q3), .second, .val (.long q4), .second, .val (.int p5), .val (.int p6), .val (.int (own_bd p1)), .val (.int (own_fs p1)), .val (.int (own_bf p1)), .val (.ref b1), .val (.ref b18), .unset, .unset, .unset] [])) _
    refine XS.aload X26.here hx rfl (hb hby at_114) rfl rfl ?_
    show Steps p.tables e below (T26.setTop (mkF m 116 #[.val (.int p1), .val (.long q2), .second, .val (.long q3), .second, .val (.long q4), .second, .val (.int p5), .val (.int p6), .val (.int (own_bd p1)), .val (.int (own_fs p1)), .val (.int (own_bf p1)), .val (.ref b1), .val (.ref b18), .unset, .unset, .unset] [(.ref b18)])) _
    refine XS.iconst X26.here hx rfl (hb hby at_116) ?_
    show Steps p.tables e below (T26.setTop (mkF m 117 #[.val (.int p1), .val (.long q2), .second, .val (.long q3), .second, .val (.long q4), .second, .val (.int p5), .val (.int p6), .val (.int (own_bd p1)), .val (.int (own_fs p1)), .val (.int (own_bf p1)), .val (.ref b1), .val (.ref b18), .unset, .unset, .unset] [(.int (2 : Int32)), (.ref b18)])) _
    refine XS.aload X26.here hx rfl (hb hby at_117) rfl rfl ?_
    show Steps p.tables e below (T26.setTop (mkF m 119 #[.val (.int p1), .val (.long q2), .second, .val (.long q3), .second, .val (.long q4), .second, .val (.int p5), .val (.int p6), .val (.int (own_bd p1)), .val (.int (own_fs p1)), .val (.int (own_bf p1)), .val (.ref b1), .val (.ref b18), .unset, .unset, .unset] [(.ref b1), (.int (2 : Int32)), (.ref b18)])) _
    refine XS.iconst X26.here hx rfl (hb hby at_119) ?_
    show Steps p.tables e below (T26.setTop (mkF m 120 #[.val (.int p1), .val (.long q2), .second, .val (.long q3), .second, .val (.long q4), .second, .val (.int p5), .val (.int p6), .val (.int (own_bd p1)), .val (.int (own_fs p1)), .val (.int (own_bf p1)), .val (.ref b1), .val (.ref b18), .unset, .unset, .unset] [(.int (2 : Int32)), (.ref b1), (.int (2 : Int32)), (.ref b18)])) _
    refine X26.iaload hx (j := (2 : Int32)) (v := (.int (q3.toInt32))) (by rw [e26]; exact Ar27.1) (State.isArrayOf_alike hZ.alike Ar27.2.1) Ar27.2.2 hin27 hat27 (g := (mkF m 120 #[.val (.int p1), .val (.long q2), .second, .val (.long q3), .second, .val (.long q4), .second, .val (.int p5), .val (.int p6), .val (.int (own_bd p1)), .val (.int (own_fs p1)), .val (.int (own_bf p1)), .val (.ref b1), .val (.ref b18), .unset, .unset, .unset] [(.int (2 : Int32)), (.ref b1), (.int (2 : Int32)), (.ref b18)])) rfl rfl (hb hby at_120) _ ?_
    show Steps p.tables e below (T26.setTop (mkF m 121 #[.val (.int p1), .val (.long q2), .second, .val (.long q3), .second, .val (.long q4), .second, .val (.int p5), .val (.int p6), .val (.int (own_bd p1)), .val (.int (own_fs p1)), .val (.int (own_bf p1)), .val (.ref b1), .val (.ref b18), .unset, .unset, .unset] [(.int (q3.toInt32)), (.int (2 : Int32)), (.ref b18)])) _
    refine st30 _ ?_
    show Steps p.tables e below (T30.setTop (mkF m 122 #[.val (.int p1), .val (.long q2), .second, .val (.long q3), .second, .val (.long q4), .second, .val (.int p5), .val (.int p6), .val (.int (own_bd p1)), .val (.int (own_fs p1)), .val (.int (own_bf p1)), .val (.ref b1), .val (.ref b18), .unset, .unset, .unset] [])) _
    refine XS.aload X30.here hx rfl (hb hby at_122) rfl rfl ?_
    show Steps p.tables e below (T30.setTop (mkF m 124 #[.val (.int p1), .val (.long q2), .second, .val (.long q3), .second, .val (.long q4), .second, .val (.int p5), .val (.int p6), .val (.int (own_bd p1)), .val (.int (own_fs p1)), .val (.int (own_bf p1)), .val (.ref b1), .val (.ref b18), .unset, .unset, .unset] [(.ref b18)])) _
    refine XS.iconst X30.here hx rfl (hb hby at_124) ?_
    show Steps p.tables e below (T30.setTop (mkF m 125 #[.val (.int p1), .val (.long q2), .second, .val (.long q3), .second, .val (.long q4), .second, .val (.int p5), .val (.int p6), .val (.int (own_bd p1)), .val (.int (own_fs p1)), .val (.int (own_bf p1)), .val (.ref b1), .val (.ref b18), .unset, .unset, .unset] [(.int (3 : Int32)), (.ref b18)])) _
    refine XS.aload X30.here hx rfl (hb hby at_125) rfl rfl ?_
    show Steps p.tables e below (T30.setTop (mkF m 127 #[.val (.int p1), .val (.long q2), .second, .val (.long q3), .second, .val (.long q4), .second, .val (.int p5), .val (.int p6), .val (.int (own_bd p1)), .val (.int (own_fs p1)), .val (.int (own_bf p1)), .val (.ref b1), .val (.ref b18), .unset, .unset, .unset] [(.ref b1), (.int (3 : Int32)), (.ref b18)])) _
    refine XS.iconst X30.here hx rfl (hb hby at_127) ?_
    show Steps p.tables e below (T30.setTop (mkF m 128 #[.val (.int p1), .val (.long q2), .second, .val (.long q3), .second, .val (.long q4), .second, .val (.int p5), .val (.int p6), .val (.int (own_bd p1)), .val (.int (own_fs p1)), .val (.int (own_bf p1)), .val (.ref b1), .val (.ref b18), .unset, .unset, .unset] [(.int (3 : Int32)), (.ref b1), (.int (3 : Int32)), (.ref b18)])) _
    refine X30.iaload hx (j := (3 : Int32)) (v := (.int (((q3.toUInt64 >>> ((32 : Int32) &&& 0x3f).toInt64.toUInt64).toInt64).toInt32))) (by rw [e30]; exact Ar31.1) (State.isArrayOf_alike hZ.alike Ar31.2.1) Ar31.2.2 hin31 hat31 (g := (mkF m 128 #[.val (.int p1), .val (.long q2), .second, .val (.long q3), .second, .val (.long q4), .second, .val (.int p5), .val (.int p6), .val (.int (own_bd p1)), .val (.int (own_fs p1)), .val (.int (own_bf p1)), .val (.ref b1), .val (.ref b18), .unset, .unset, .unset] [(.int (3 : Int32)), (.ref b1), (.int (3 : Int32)), (.ref b18)])) rfl rfl (hb hby at_128) _ ?_
    show Steps p.tables e below (T30.setTop (mkF m 129 #[.val (.int p1), .val (.long q2), .second, .val (.long q3), .second, .val (.long q4), .second, .val (.int p5), .val (.int p6), .val (.int (own_bd p1)), .val (.int (own_fs p1)), .val (.int (own_bf p1)), .val (.ref b1), .val (.ref b18), .unset, .unset, .unset] [(.int (((q3.toUInt64 >>> ((32 : Int32) &&& 0x3f).toInt64.toUInt64).toInt64).toInt32)), (.int (3 : Int32)), (.ref b18)])) _
    refine st34 _ ?_
    show Steps p.tables e below (T34.setTop (mkF m 130 #[.val (.int p1), .val (.long q2), .second, .val (.long q3), .second, .val (.long q4), .second, .val (.int p5), .val (.int p6), .val (.int (own_bd p1)), .val (.int (own_fs p1)), .val (.int (own_bf p1)), .val (.ref b1), .val (.ref b18), .unset, .unset, .unset] [])) _
    refine XS.aload X34.here hx rfl (hb hby at_130) rfl rfl ?_
    show Steps p.tables e below (T34.setTop (mkF m 132 #[.val (.int p1), .val (.long q2), .second, .val (.long q3), .second, .val (.long q4), .second, .val (.int p5), .val (.int p6), .val (.int (own_bd p1)), .val (.int (own_fs p1)), .val (.int (own_bf p1)), .val (.ref b1), .val (.ref b18), .unset, .unset, .unset] [(.ref b18)])) _
    refine XS.iconst X34.here hx rfl (hb hby at_132) ?_
    show Steps p.tables e below (T34.setTop (mkF m 133 #[.val (.int p1), .val (.long q2), .second, .val (.long q3), .second, .val (.long q4), .second, .val (.int p5), .val (.int p6), .val (.int (own_bd p1)), .val (.int (own_fs p1)), .val (.int (own_bf p1)), .val (.ref b1), .val (.ref b18), .unset, .unset, .unset] [(.int (4 : Int32)), (.ref b18)])) _
    refine XS.aload X34.here hx rfl (hb hby at_133) rfl rfl ?_
    show Steps p.tables e below (T34.setTop (mkF m 135 #[.val (.int p1), .val (.long q2), .second, .val (.long q3), .second, .val (.long q4), .second, .val (.int p5), .val (.int p6), .val (.int (own_bd p1)), .val (.int (own_fs p1)), .val (.int (own_bf p1)), .val (.ref b1), .val (.ref b18), .unset, .unset, .unset] [(.ref b1), (.int (4 : Int32)), (.ref b18)])) _
    refine XS.iconst X34.here hx rfl (hb hby at_135) ?_
    show Steps p.tables e below (T34.setTop (mkF m 136 #[.val (.int p1), .val (.long q2), .second, .val (.long q3), .second, .val (.long q4), .second, .val (.int p5), .val (.int p6), .val (.int (own_bd p1)), .val (.int (own_fs p1)), .val (.int (own_bf p1)), .val (.ref b1), .val (.ref b18), .unset, .unset, .unset] [(.int (4 : Int32)), (.ref b1), (.int (4 : Int32)), (.ref b18)])) _
    refine X34.iaload hx (j := (4 : Int32)) (v := (.int (q4.toInt32))) (by rw [e34]; exact Ar35.1) (State.isArrayOf_alike hZ.alike Ar35.2.1) Ar35.2.2 hin35 hat35 (g := (mkF m 136 #[.val (.int p1), .val (.long q2), .second, .val (.long q3), .second, .val (.long q4), .second, .val (.int p5), .val (.int p6), .val (.int (own_bd p1)), .val (.int (own_fs p1)), .val (.int (own_bf p1)), .val (.ref b1), .val (.ref b18), .unset, .unset, .unset] [(.int (4 : Int32)), (.ref b1), (.int (4 : Int32)), (.ref b18)])) rfl rfl (hb hby at_136) _ ?_
    show Steps p.tables e below (T34.setTop (mkF m 137 #[.val (.int p1), .val (.long q2), .second, .val (.long q3), .second, .val (.long q4), .second, .val (.int p5), .val (.int p6), .val (.int (own_bd p1)), .val (.int (own_fs p1)), .val (.int (own_bf p1)), .val (.ref b1), .val (.ref b18), .unset, .unset, .unset] [(.int (q4.toInt32)), (.int (4 : Int32)), (.ref b18)])) _
    refine st38 _ ?_
    show Steps p.tables e below (T38.setTop (mkF m 138 #[.val (.int p1), .val (.long q2), .second, .val (.long q3), .second, .val (.long q4), .second, .val (.int p5), .val (.int p6), .val (.int (own_bd p1)), .val (.int (own_fs p1)), .val (.int (own_bf p1)), .val (.ref b1), .val (.ref b18), .unset, .unset, .unset] [])) _
    refine XS.aload X38.here hx rfl (hb hby at_138) rfl rfl ?_
    show Steps p.tables e below (T38.setTop (mkF m 140 #[.val (.int p1), .val (.long q2), .second, .val (.long q3), .second, .val (.long q4), .second, .val (.int p5), .val (.int p6), .val (.int (own_bd p1)), .val (.int (own_fs p1)), .val (.int (own_bf p1)), .val (.ref b1), .val (.ref b18), .unset, .unset, .unset] [(.ref b18)])) _
    refine XS.iconst X38.here hx rfl (hb hby at_140) ?_
    show Steps p.tables e below (T38.setTop (mkF m 141 #[.val (.int p1), .val (.long q2), .second, .val (.long q3), .second, .val (.long q4), .second, .val (.int p5), .val (.int p6), .val (.int (own_bd p1)), .val (.int (own_fs p1)), .val (.int (own_bf p1)), .val (.ref b1), .val (.ref b18), .unset, .unset, .unset] [(.int (5 : Int32)), (.ref b18)])) _
    refine XS.aload X38.here hx rfl (hb hby at_141) rfl rfl ?_
    show Steps p.tables e below (T38.setTop (mkF m 143 #[.val (.int p1), .val (.long q2), .second, .val (.long q3), .second, .val (.long q4), .second, .val (.int p5), .val (.int p6), .val (.int (own_bd p1)), .val (.int (own_fs p1)), .val (.int (own_bf p1)), .val (.ref b1), .val (.ref b18), .unset, .unset, .unset] [(.ref b1), (.int (5 : Int32)), (.ref b18)])) _
    refine XS.iconst X38.here hx rfl (hb hby at_143) ?_
    show Steps p.tables e below (T38.setTop (mkF m 144 #[.val (.int p1), .val (.long q2), .second, .val (.long q3), .second, .val (.long q4), .second, .val (.int p5), .val (.int p6), .val (.int (own_bd p1)), .val (.int (own_fs p1)), .val (.int (own_bf p1)), .val (.ref b1), .val (.ref b18), .unset, .unset, .unset] [(.int (5 : Int32)), (.ref b1), (.int (5 : Int32)), (.ref b18)])) _
    refine X38.iaload hx (j := (5 : Int32)) (v := (.int (((q4.toUInt64 >>> ((32 : Int32) &&& 0x3f).toInt64.toUInt64).toInt64).toInt32))) (by rw [e38]; exact Ar39.1) (State.isArrayOf_alike hZ.alike Ar39.2.1) Ar39.2.2 hin39 hat39 (g := (mkF m 144 #[.val (.int p1), .val (.long q2), .second, .val (.long q3), .second, .val (.long q4), .second, .val (.int p5), .val (.int p6), .val (.int (own_bd p1)), .val (.int (own_fs p1)), .val (.int (own_bf p1)), .val (.ref b1), .val (.ref b18), .unset, .unset, .unset] [(.int (5 : Int32)), (.ref b1), (.int (5 : Int32)), (.ref b18)])) rfl rfl (hb hby at_144) _ ?_
    show Steps p.tables e below (T38.setTop (mkF m 145 #[.val (.int p1), .val (.long q2), .second, .val (.long q3), .second, .val (.long q4), .second, .val (.int p5), .val (.int p6), .val (.int (own_bd p1)), .val (.int (own_fs p1)), .val (.int (own_bf p1)), .val (.ref b1), .val (.ref b18), .unset, .unset, .unset] [(.int (((q4.toUInt64 >>> ((32 : Int32) &&& 0x3f).toInt64.toUInt64).toInt64).toInt32)), (.int (5 : Int32)), (.ref b18)])) _
    refine st42 _ ?_
    show Steps p.tables e below (T42.setTop (mkF m 146 #[.val (.int p1), .val (.long q2), .second, .val (.long q3), .second, .val (.long q4), .second, .val (.int p5), .val (.int p6), .val (.int (own_bd p1)), .val (.int (own_fs p1)), .val (.int (own_bf p1)), .val (.ref b1), .val (.ref b18), .unset, .unset, .unset] [])) _
    refine XS.aload X42.here hx rfl (hb hby at_146) rfl rfl ?_
    show Steps p.tables e below (T42.setTop (mkF m 148 #[.val (.int p1), .val (.long q2), .second, .val (.long q3), .second, .val (.long q4), .second, .val (.int p5), .val (.int p6), .val (.int (own_bd p1)), .val (.int (own_fs p1)), .val (.int (own_bf p1)), .val (.ref b1), .val (.ref b18), .unset, .unset, .unset] [(.ref b18)])) _
    refine XS.bipush X42.here hx rfl (hb hby at_148) ?_
    show Steps p.tables e below (T42.setTop (mkF m 150 #[.val (.int p1), .val (.long q2), .second, .val (.long q3), .second, .val (.long q4), .second, .val (.int p5), .val (.int p6), .val (.int (own_bd p1)), .val (.int (own_fs p1)), .val (.int (own_bf p1)), .val (.ref b1), .val (.ref b18), .unset, .unset, .unset] [(.int (6 : Int32)), (.ref b18)])) _
    refine XS.aload X42.here hx rfl (hb hby at_150) rfl rfl ?_
    show Steps p.tables e below (T42.setTop (mkF m 152 #[.val (.int p1), .val (.long q2), .second, .val (.long q3), .second, .val (.long q4), .second, .val (.int p5), .val (.int p6), .val (.int (own_bd p1)), .val (.int (own_fs p1)), .val (.int (own_bf p1)), .val (.ref b1), .val (.ref b18), .unset, .unset, .unset] [(.ref b1), (.int (6 : Int32)), (.ref b18)])) _
    refine XS.bipush X42.here hx rfl (hb hby at_152) ?_
    show Steps p.tables e below (T42.setTop (mkF m 154 #[.val (.int p1), .val (.long q2), .second, .val (.long q3), .second, .val (.long q4), .second, .val (.int p5), .val (.int p6), .val (.int (own_bd p1)), .val (.int (own_fs p1)), .val (.int (own_bf p1)), .val (.ref b1), .val (.ref b18), .unset, .unset, .unset] [(.int (6 : Int32)), (.ref b1), (.int (6 : Int32)), (.ref b18)])) _
    refine X42.iaload hx (j := (6 : Int32)) (v := (.int p5)) (by rw [e42]; exact Ar43.1) (State.isArrayOf_alike hZ.alike Ar43.2.1) Ar43.2.2 hin43 hat43 (g := (mkF m 154 #[.val (.int p1), .val (.long q2), .second, .val (.long q3), .second, .val (.long q4), .second, .val (.int p5), .val (.int p6), .val (.int (own_bd p1)), .val (.int (own_fs p1)), .val (.int (own_bf p1)), .val (.ref b1), .val (.ref b18), .unset, .unset, .unset] [(.int (6 : Int32)), (.ref b1), (.int (6 : Int32)), (.ref b18)])) rfl rfl (hb hby at_154) _ ?_
    show Steps p.tables e below (T42.setTop (mkF m 155 #[.val (.int p1), .val (.long q2), .second, .val (.long q3), .second, .val (.long q4), .second, .val (.int p5), .val (.int p6), .val (.int (own_bd p1)), .val (.int (own_fs p1)), .val (.int (own_bf p1)), .val (.ref b1), .val (.ref b18), .unset, .unset, .unset] [(.int p5), (.int (6 : Int32)), (.ref b18)])) _
    refine st46 _ ?_
    show Steps p.tables e below (T46.setTop (mkF m 156 #[.val (.int p1), .val (.long q2), .second, .val (.long q3), .second, .val (.long q4), .second, .val (.int p5), .val (.int p6), .val (.int (own_bd p1)), .val (.int (own_fs p1)), .val (.int (own_bf p1)), .val (.ref b1), .val (.ref b18), .unset, .unset, .unset] [])) _
    refine XS.aload X46.here hx rfl (hb hby at_156) rfl rfl ?_
    show Steps p.tables e below (T46.setTop (mkF m 158 #[.val (.int p1), .val (.long q2), .second, .val (.long q3), .second, .val (.long q4), .second, .val (.int p5), .val (.int p6), .val (.int (own_bd p1)), .val (.int (own_fs p1)), .val (.int (own_bf p1)), .val (.ref b1), .val (.ref b18), .unset, .unset, .unset] [(.ref b18)])) _
    refine XS.bipush X46.here hx rfl (hb hby at_158) ?_
    show Steps p.tables e below (T46.setTop (mkF m 160 #[.val (.int p1), .val (.long q2), .second, .val (.long q3), .second, .val (.long q4), .second, .val (.int p5), .val (.int p6), .val (.int (own_bd p1)), .val (.int (own_fs p1)), .val (.int (own_bf p1)), .val (.ref b1), .val (.ref b18), .unset, .unset, .unset] [(.int (7 : Int32)), (.ref b18)])) _
    refine XS.aload X46.here hx rfl (hb hby at_160) rfl rfl ?_
    show Steps p.tables e below (T46.setTop (mkF m 162 #[.val (.int p1), .val (.long q2), .second, .val (.long q3), .second, .val (.long q4), .second, .val (.int p5), .val (.int p6), .val (.int (own_bd p1)), .val (.int (own_fs p1)), .val (.int (own_bf p1)), .val (.ref b1), .val (.ref b18), .unset, .unset, .unset] [(.ref b1), (.int (7 : Int32)), (.ref b18)])) _
    refine XS.bipush X46.here hx rfl (hb hby at_162) ?_
    show Steps p.tables e below (T46.setTop (mkF m 164 #[.val (.int p1), .val (.long q2), .second, .val (.long q3), .second, .val (.long q4), .second, .val (.int p5), .val (.int p6), .val (.int (own_bd p1)), .val (.int (own_fs p1)), .val (.int (own_bf p1)), .val (.ref b1), .val (.ref b18), .unset, .unset, .unset] [(.int (7 : Int32)), (.ref b1), (.int (7 : Int32)), (.ref b18)])) _
    refine X46.iaload hx (j := (7 : Int32)) (v := (.int p6)) (by rw [e46]; exact Ar47.1) (State.isArrayOf_alike hZ.alike Ar47.2.1) Ar47.2.2 hin47 hat47 (g := (mkF m 164 #[.val (.int p1), .val (.long q2), .second, .val (.long q3), .second, .val (.long q4), .second, .val (.int p5), .val (.int p6), .val (.int (own_bd p1)), .val (.int (own_fs p1)), .val (.int (own_bf p1)), .val (.ref b1), .val (.ref b18), .unset, .unset, .unset] [(.int (7 : Int32)), (.ref b1), (.int (7 : Int32)), (.ref b18)])) rfl rfl (hb hby at_164) _ ?_
    show Steps p.tables e below (T46.setTop (mkF m 165 #[.val (.int p1), .val (.long q2), .second, .val (.long q3), .second, .val (.long q4), .second, .val (.int p5), .val (.int p6), .val (.int (own_bd p1)), .val (.int (own_fs p1)), .val (.int (own_bf p1)), .val (.ref b1), .val (.ref b18), .unset, .unset, .unset] [(.int p6), (.int (7 : Int32)), (.ref b18)])) _
    refine st50 _ ?_
    show Steps p.tables e below (T50.setTop (mkF m 166 #[.val (.int p1), .val (.long q2), .second, .val (.long q3), .second, .val (.long q4), .second, .val (.int p5), .val (.int p6), .val (.int (own_bd p1)), .val (.int (own_fs p1)), .val (.int (own_bf p1)), .val (.ref b1), .val (.ref b18), .unset, .unset, .unset] [])) _
    refine st51 _ ?_
    show Steps p.tables e below (T51.setTop (mkF m 169 #[.val (.int p1), .val (.long q2), .second, .val (.long q3), .second, .val (.long q4), .second, .val (.int p5), .val (.int p6), .val (.int (own_bd p1)), .val (.int (own_fs p1)), .val (.int (own_bf p1)), .val (.ref b1), .val (.ref b18), .unset, .unset, .unset] [(.ref b51)])) _
    refine XS.dup X51.here hx rfl (hb hby at_169) rfl rfl ?_
    show Steps p.tables e below (T51.setTop (mkF m 170 #[.val (.int p1), .val (.long q2), .second, .val (.long q3), .second, .val (.long q4), .second, .val (.int p5), .val (.int p6), .val (.int (own_bd p1)), .val (.int (own_fs p1)), .val (.int (own_bf p1)), .val (.ref b1), .val (.ref b18), .unset, .unset, .unset] [(.ref b51), (.ref b51)])) _
    refine XS.iload X51.here hx rfl (hb hby at_170) rfl ?_
    show Steps p.tables e below (T51.setTop (mkF m 172 #[.val (.int p1), .val (.long q2), .second, .val (.long q3), .second, .val (.long q4), .second, .val (.int p5), .val (.int p6), .val (.int (own_bd p1)), .val (.int (own_fs p1)), .val (.int (own_bf p1)), .val (.ref b1), .val (.ref b18), .unset, .unset, .unset] [(.int (own_bd p1)), (.ref b51), (.ref b51)])) _
    refine st52.trans ?_
    show Steps p.tables e below (T52.setTop (mkF m 175 #[.val (.int p1), .val (.long q2), .second, .val (.long q3), .second, .val (.long q4), .second, .val (.int p5), .val (.int p6), .val (.int (own_bd p1)), .val (.int (own_fs p1)), .val (.int (own_bf p1)), .val (.ref b1), .val (.ref b18), .unset, .unset, .unset] [(.ref b51)])) _
    refine XS.astore X52.here hx rfl (hb hby at_175) rfl rfl (l' := #[.val (.int p1), .val (.long q2), .second, .val (.long q3), .second, .val (.long q4), .second, .val (.int p5), .val (.int p6), .val (.int (own_bd p1)), .val (.int (own_fs p1)), .val (.int (own_bf p1)), .val (.ref b1), .val (.ref b18), .val (.ref b51), .unset, .unset]) rfl ?_
    show Steps p.tables e below (T52.setTop (mkF m 177 #[.val (.int p1), .val (.long q2), .second, .val (.long q3), .second, .val (.long q4), .second, .val (.int p5), .val (.int p6), .val (.int (own_bd p1)), .val (.int (own_fs p1)), .val (.int (own_bf p1)), .val (.ref b1), .val (.ref b18), .val (.ref b51), .unset, .unset] [])) _
    refine XS.aload X52.here hx rfl (hb hby at_177) rfl rfl ?_
    show Steps p.tables e below (T52.setTop (mkF m 179 #[.val (.int p1), .val (.long q2), .second, .val (.long q3), .second, .val (.long q4), .second, .val (.int p5), .val (.int p6), .val (.int (own_bd p1)), .val (.int (own_fs p1)), .val (.int (own_bf p1)), .val (.ref b1), .val (.ref b18), .val (.ref b51), .unset, .unset] [(.ref b51)])) _
    refine XS.iload X52.here hx rfl (hb hby at_179) rfl ?_
    show Steps p.tables e below (T52.setTop (mkF m 181 #[.val (.int p1), .val (.long q2), .second, .val (.long q3), .second, .val (.long q4), .second, .val (.int p5), .val (.int p6), .val (.int (own_bd p1)), .val (.int (own_fs p1)), .val (.int (own_bf p1)), .val (.ref b1), .val (.ref b18), .val (.ref b51), .unset, .unset] [(.int (own_fs p1)), (.ref b51)])) _
    refine st54.trans ?_
    show Steps p.tables e below (T54.setTop (mkF m 184 #[.val (.int p1), .val (.long q2), .second, .val (.long q3), .second, .val (.long q4), .second, .val (.int p5), .val (.int p6), .val (.int (own_bd p1)), .val (.int (own_fs p1)), .val (.int (own_bf p1)), .val (.ref b1), .val (.ref b18), .val (.ref b51), .unset, .unset] [])) _
    refine XS.aload X54.here hx rfl (hb hby at_184) rfl rfl ?_
    show Steps p.tables e below (T54.setTop (mkF m 186 #[.val (.int p1), .val (.long q2), .second, .val (.long q3), .second, .val (.long q4), .second, .val (.int p5), .val (.int p6), .val (.int (own_bd p1)), .val (.int (own_fs p1)), .val (.int (own_bf p1)), .val (.ref b1), .val (.ref b18), .val (.ref b51), .unset, .unset] [(.ref b51)])) _
    refine XS.aload X54.here hx rfl (hb hby at_186) rfl rfl ?_
    show Steps p.tables e below (T54.setTop (mkF m 188 #[.val (.int p1), .val (.long q2), .second, .val (.long q3), .second, .val (.long q4), .second, .val (.int p5), .val (.int p6), .val (.int (own_bd p1)), .val (.int (own_fs p1)), .val (.int (own_bf p1)), .val (.ref b1), .val (.ref b18), .val (.ref b51), .unset, .unset] [(.ref b18), (.ref b51)])) _
    refine XS.iload X54.here hx rfl (hb hby at_188) rfl ?_
    show Steps p.tables e below (T54.setTop (mkF m 190 #[.val (.int p1), .val (.long q2), .second, .val (.long q3), .second, .val (.long q4), .second, .val (.int p5), .val (.int p6), .val (.int (own_bd p1)), .val (.int (own_fs p1)), .val (.int (own_bf p1)), .val (.ref b1), .val (.ref b18), .val (.ref b51), .unset, .unset] [(.int (own_bf p1)), (.ref b18), (.ref b51)])) _
    refine st56.trans ?_
    show Steps p.tables e below (T56.setTop (mkF m 193 #[.val (.int p1), .val (.long q2), .second, .val (.long q3), .second, .val (.long q4), .second, .val (.int p5), .val (.int p6), .val (.int (own_bd p1)), .val (.int (own_fs p1)), .val (.int (own_bf p1)), .val (.ref b1), .val (.ref b18), .val (.ref b51), .unset, .unset] [(.ref b18)])) _
    refine XS.astore X56.here hx rfl (hb hby at_193) rfl rfl (l' := #[.val (.int p1), .val (.long q2), .second, .val (.long q3), .second, .val (.long q4), .second, .val (.int p5), .val (.int p6), .val (.int (own_bd p1)), .val (.int (own_fs p1)), .val (.int (own_bf p1)), .val (.ref b1), .val (.ref b18), .val (.ref b51), .val (.ref b18), .unset]) rfl ?_
    show Steps p.tables e below (T56.setTop (mkF m 195 #[.val (.int p1), .val (.long q2), .second, .val (.long q3), .second, .val (.long q4), .second, .val (.int p5), .val (.int p6), .val (.int (own_bd p1)), .val (.int (own_fs p1)), .val (.int (own_bf p1)), .val (.ref b1), .val (.ref b18), .val (.ref b51), .val (.ref b18), .unset] [])) _
    refine XS.aload X56.here hx rfl (hb hby at_195) rfl rfl ?_
    show Steps p.tables e below (T56.setTop (mkF m 197 #[.val (.int p1), .val (.long q2), .second, .val (.long q3), .second, .val (.long q4), .second, .val (.int p5), .val (.int p6), .val (.int (own_bd p1)), .val (.int (own_fs p1)), .val (.int (own_bf p1)), .val (.ref b1), .val (.ref b18), .val (.ref b51), .val (.ref b18), .unset] [(.ref b18)])) _
    refine XS.aload X56.here hx rfl (hb hby at_197) rfl rfl ?_
    show Steps p.tables e below (T56.setTop (mkF m 199 #[.val (.int p1), .val (.long q2), .second, .val (.long q3), .second, .val (.long q4), .second, .val (.int p5), .val (.int p6), .val (.int (own_bd p1)), .val (.int (own_fs p1)), .val (.int (own_bf p1)), .val (.ref b1), .val (.ref b18), .val (.ref b51), .val (.ref b18), .unset] [(.ref b18), (.ref b18)])) _
    refine Jvm.RoadKit.acmp (g := (mkF m 199 #[.val (.int p1), .val (.long q2), .second, .val (.long q3), .second, .val (.long q4), .second, .val (.int p5), .val (.int p6), .val (.int (own_bd p1)), .val (.int (own_fs p1)), .val (.int (own_bf p1)), .val (.ref b1), .val (.ref b18), .val (.ref b51), .val (.ref b18), .unset] [(.ref b18), (.ref b18)])) X56 hx rfl rfl rfl (pc0 := 199) (pc' := 204) (same := true) rfl (hb hby at_199) rfl (decide_eq_true rfl) (by decide) (by decide) ?_
    show Steps p.tables e below (T56.setTop (mkF m 204 #[.val (.int p1), .val (.long q2), .second, .val (.long q3), .second, .val (.long q4), .second, .val (.int p5), .val (.int p6), .val (.int (own_bd p1)), .val (.int (own_fs p1)), .val (.int (own_bf p1)), .val (.ref b1), .val (.ref b18), .val (.ref b51), .val (.ref b18), .unset] [])) _
    refine XS.iload X56.here hx rfl (hb hby at_204) rfl ?_
    show Steps p.tables e below (T56.setTop (mkF m 206 #[.val (.int p1), .val (.long q2), .second, .val (.long q3), .second, .val (.long q4), .second, .val (.int p5), .val (.int p6), .val (.int (own_bd p1)), .val (.int (own_fs p1)), .val (.int (own_bf p1)), .val (.ref b1), .val (.ref b18), .val (.ref b51), .val (.ref b18), .unset] [(.int (own_fs p1))])) _
    refine XS.iload X56.here hx rfl (hb hby at_206) rfl ?_
    show Steps p.tables e below (T56.setTop (mkF m 208 #[.val (.int p1), .val (.long q2), .second, .val (.long q3), .second, .val (.long q4), .second, .val (.int p5), .val (.int p6), .val (.int (own_bd p1)), .val (.int (own_fs p1)), .val (.int (own_bf p1)), .val (.ref b1), .val (.ref b18), .val (.ref b51), .val (.ref b18), .unset] [(.int (own_bf p1)), (.int (own_fs p1))])) _
    refine XS.iload X56.here hx rfl (hb hby at_208) rfl ?_
    show Steps p.tables e below (T56.setTop (mkF m 210 #[.val (.int p1), .val (.long q2), .second, .val (.long q3), .second, .val (.long q4), .second, .val (.int p5), .val (.int p6), .val (.int (own_bd p1)), .val (.int (own_fs p1)), .val (.int (own_bf p1)), .val (.ref b1), .val (.ref b18), .val (.ref b51), .val (.ref b18), .unset] [(.int (own_bd p1)), (.int (own_bf p1)), (.int (own_fs p1))])) _
    refine XS.imul X56.here hx rfl (hb hby at_210) rfl ?_
    show Steps p.tables e below (T56.setTop (mkF m 211 #[.val (.int p1), .val (.long q2), .second, .val (.long q3), .second, .val (.long q4), .second, .val (.int p5), .val (.int p6), .val (.int (own_bd p1)), .val (.int (own_fs p1)), .val (.int (own_bf p1)), .val (.ref b1), .val (.ref b18), .val (.ref b51), .val (.ref b18), .unset] [(.int ((own_bf p1) * (own_bd p1))), (.int (own_fs p1))])) _
    refine XS.iadd X56.here hx rfl (hb hby at_211) rfl ?_
    show Steps p.tables e below (T56.setTop (mkF m 212 #[.val (.int p1), .val (.long q2), .second, .val (.long q3), .second, .val (.long q4), .second, .val (.int p5), .val (.int p6), .val (.int (own_bd p1)), .val (.int (own_fs p1)), .val (.int (own_bf p1)), .val (.ref b1), .val (.ref b18), .val (.ref b51), .val (.ref b18), .unset] [(.int ((own_fs p1) + ((own_bf p1) * (own_bd p1))))])) _
    refine XS.istore X56.here hx rfl (hb hby at_212) rfl (l' := #[.val (.int p1), .val (.long q2), .second, .val (.long q3), .second, .val (.long q4), .second, .val (.int p5), .val (.int p6), .val (.int (own_bd p1)), .val (.int (own_fs p1)), .val (.int (own_bf p1)), .val (.ref b1), .val (.ref b18), .val (.ref b51), .val (.ref b18), .val (.int ((own_fs p1) + ((own_bf p1) * (own_bd p1))))]) rfl ?_
    show Steps p.tables e below (T56.setTop (mkF m 214 #[.val (.int p1), .val (.long q2), .second, .val (.long q3), .second, .val (.long q4), .second, .val (.int p5), .val (.int p6), .val (.int (own_bd p1)), .val (.int (own_fs p1)), .val (.int (own_bf p1)), .val (.ref b1), .val (.ref b18), .val (.ref b51), .val (.ref b18), .val (.int ((own_fs p1) + ((own_bf p1) * (own_bd p1))))] [])) _
    refine XS.aload X56.here hx rfl (hb hby at_214) rfl rfl ?_
    show Steps p.tables e below (T56.setTop (mkF m 216 #[.val (.int p1), .val (.long q2), .second, .val (.long q3), .second, .val (.long q4), .second, .val (.int p5), .val (.int p6), .val (.int (own_bd p1)), .val (.int (own_fs p1)), .val (.int (own_bf p1)), .val (.ref b1), .val (.ref b18), .val (.ref b51), .val (.ref b18), .val (.int ((own_fs p1) + ((own_bf p1) * (own_bd p1))))] [(.ref b1)])) _
    refine XS.aload X56.here hx rfl (hb hby at_216) rfl rfl ?_
    show Steps p.tables e below (T56.setTop (mkF m 218 #[.val (.int p1), .val (.long q2), .second, .val (.long q3), .second, .val (.long q4), .second, .val (.int p5), .val (.int p6), .val (.int (own_bd p1)), .val (.int (own_fs p1)), .val (.int (own_bf p1)), .val (.ref b1), .val (.ref b18), .val (.ref b51), .val (.ref b18), .val (.int ((own_fs p1) + ((own_bf p1) * (own_bd p1))))] [(.ref b18), (.ref b1)])) _
    refine XS.iconst X56.here hx rfl (hb hby at_218) ?_
    show Steps p.tables e below (T56.setTop (mkF m 219 #[.val (.int p1), .val (.long q2), .second, .val (.long q3), .second, .val (.long q4), .second, .val (.int p5), .val (.int p6), .val (.int (own_bd p1)), .val (.int (own_fs p1)), .val (.int (own_bf p1)), .val (.ref b1), .val (.ref b18), .val (.ref b51), .val (.ref b18), .val (.int ((own_fs p1) + ((own_bf p1) * (own_bd p1))))] [(.int (0 : Int32)), (.ref b18), (.ref b1)])) _
    refine XS.iload X56.here hx rfl (hb hby at_219) rfl ?_
    show Steps p.tables e below (T56.setTop (mkF m 221 #[.val (.int p1), .val (.long q2), .second, .val (.long q3), .second, .val (.long q4), .second, .val (.int p5), .val (.int p6), .val (.int (own_bd p1)), .val (.int (own_fs p1)), .val (.int (own_bf p1)), .val (.ref b1), .val (.ref b18), .val (.ref b51), .val (.ref b18), .val (.int ((own_fs p1) + ((own_bf p1) * (own_bd p1))))] [(.int ((own_fs p1) + ((own_bf p1) * (own_bd p1)))), (.int (0 : Int32)), (.ref b18), (.ref b1)])) _
    refine XS.iload X56.here hx rfl (hb hby at_221) rfl ?_
    show Steps p.tables e below (T56.setTop (mkF m 223 #[.val (.int p1), .val (.long q2), .second, .val (.long q3), .second, .val (.long q4), .second, .val (.int p5), .val (.int p6), .val (.int (own_bd p1)), .val (.int (own_fs p1)), .val (.int (own_bf p1)), .val (.ref b1), .val (.ref b18), .val (.ref b51), .val (.ref b18), .val (.int ((own_fs p1) + ((own_bf p1) * (own_bd p1))))] [(.int (own_bd p1)), (.int ((own_fs p1) + ((own_bf p1) * (own_bd p1)))), (.int (0 : Int32)), (.ref b18), (.ref b1)])) _
    refine st60 _ ?_
    show Steps p.tables e below (T60.setTop (mkF m 226 #[.val (.int p1), .val (.long q2), .second, .val (.long q3), .second, .val (.long q4), .second, .val (.int p5), .val (.int p6), .val (.int (own_bd p1)), .val (.int (own_fs p1)), .val (.int (own_bf p1)), .val (.ref b1), .val (.ref b18), .val (.ref b51), .val (.ref b18), .val (.int ((own_fs p1) + ((own_bf p1) * (own_bd p1))))] [(.int (own_ok [(q2.toInt32), (((q2.toUInt64 >>> ((32 : Int32) &&& 0x3f).toInt64.toUInt64).toInt64).toInt32), (q3.toInt32), (((q3.toUInt64 >>> ((32 : Int32) &&& 0x3f).toInt64.toUInt64).toInt64).toInt32), (q4.toInt32), (((q4.toUInt64 >>> ((32 : Int32) &&& 0x3f).toInt64.toUInt64).toInt64).toInt32), p5, p6] ys (0 : Int32) ((own_fs p1) + ((own_bf p1) * (own_bd p1))) (own_bd p1)))])) _
    refine XS.ifNo X60.here hx rfl (hb hby at_226) rfl ((if0 _ _).trans (feq (by rw [hok _ (by simp)]; decide : ¬ ((own_ok [(q2.toInt32), (((q2.toUInt64 >>> ((32 : Int32) &&& 0x3f).toInt64.toUInt64).toInt64).toInt32), (q3.toInt32), (((q3.toUInt64 >>> ((32 : Int32) &&& 0x3f).toInt64.toUInt64).toInt64).toInt32), (q4.toInt32), (((q4.toUInt64 >>> ((32 : Int32) &&& 0x3f).toInt64.toUInt64).toInt64).toInt32), p5, p6] ys (0 : Int32) ((own_fs p1) + ((own_bf p1) * (own_bd p1))) (own_bd p1)) = (0 : Int32)))).1) ?_
    show Steps p.tables e below (T60.setTop (mkF m 229 #[.val (.int p1), .val (.long q2), .second, .val (.long q3), .second, .val (.long q4), .second, .val (.int p5), .val (.int p6), .val (.int (own_bd p1)), .val (.int (own_fs p1)), .val (.int (own_bf p1)), .val (.ref b1), .val (.ref b18), .val (.ref b51), .val (.ref b18), .val (.int ((own_fs p1) + ((own_bf p1) * (own_bd p1))))] [])) _
    refine XS.aload X60.here hx rfl (hb hby at_229) rfl rfl ?_
    show Steps p.tables e below (T60.setTop (mkF m 231 #[.val (.int p1), .val (.long q2), .second, .val (.long q3), .second, .val (.long q4), .second, .val (.int p5), .val (.int p6), .val (.int (own_bd p1)), .val (.int (own_fs p1)), .val (.int (own_bf p1)), .val (.ref b1), .val (.ref b18), .val (.ref b51), .val (.ref b18), .val (.int ((own_fs p1) + ((own_bf p1) * (own_bd p1))))] [(.ref b1)])) _
    refine XS.aload X60.here hx rfl (hb hby at_231) rfl rfl ?_
    show Steps p.tables e below (T60.setTop (mkF m 233 #[.val (.int p1), .val (.long q2), .second, .val (.long q3), .second, .val (.long q4), .second, .val (.int p5), .val (.int p6), .val (.int (own_bd p1)), .val (.int (own_fs p1)), .val (.int (own_bf p1)), .val (.ref b1), .val (.ref b18), .val (.ref b51), .val (.ref b18), .val (.int ((own_fs p1) + ((own_bf p1) * (own_bd p1))))] [(.ref b18), (.ref b1)])) _
    refine XS.iconst X60.here hx rfl (hb hby at_233) ?_
    show Steps p.tables e below (T60.setTop (mkF m 234 #[.val (.int p1), .val (.long q2), .second, .val (.long q3), .second, .val (.long q4), .second, .val (.int p5), .val (.int p6), .val (.int (own_bd p1)), .val (.int (own_fs p1)), .val (.int (own_bf p1)), .val (.ref b1), .val (.ref b18), .val (.ref b51), .val (.ref b18), .val (.int ((own_fs p1) + ((own_bf p1) * (own_bd p1))))] [(.int (1 : Int32)), (.ref b18), (.ref b1)])) _
    refine XS.iload X60.here hx rfl (hb hby at_234) rfl ?_
    show Steps p.tables e below (T60.setTop (mkF m 236 #[.val (.int p1), .val (.long q2), .second, .val (.long q3), .second, .val (.long q4), .second, .val (.int p5), .val (.int p6), .val (.int (own_bd p1)), .val (.int (own_fs p1)), .val (.int (own_bf p1)), .val (.ref b1), .val (.ref b18), .val (.ref b51), .val (.ref b18), .val (.int ((own_fs p1) + ((own_bf p1) * (own_bd p1))))] [(.int ((own_fs p1) + ((own_bf p1) * (own_bd p1)))), (.int (1 : Int32)), (.ref b18), (.ref b1)])) _
    refine XS.iload X60.here hx rfl (hb hby at_236) rfl ?_
    show Steps p.tables e below (T60.setTop (mkF m 238 #[.val (.int p1), .val (.long q2), .second, .val (.long q3), .second, .val (.long q4), .second, .val (.int p5), .val (.int p6), .val (.int (own_bd p1)), .val (.int (own_fs p1)), .val (.int (own_bf p1)), .val (.ref b1), .val (.ref b18), .val (.ref b51), .val (.ref b18), .val (.int ((own_fs p1) + ((own_bf p1) * (own_bd p1))))] [(.int (own_bd p1)), (.int ((own_fs p1) + ((own_bf p1) * (own_bd p1)))), (.int (1 : Int32)), (.ref b18), (.ref b1)])) _
    refine st61 _ ?_
    show Steps p.tables e below (T61.setTop (mkF m 241 #[.val (.int p1), .val (.long q2), .second, .val (.long q3), .second, .val (.long q4), .second, .val (.int p5), .val (.int p6), .val (.int (own_bd p1)), .val (.int (own_fs p1)), .val (.int (own_bf p1)), .val (.ref b1), .val (.ref b18), .val (.ref b51), .val (.ref b18), .val (.int ((own_fs p1) + ((own_bf p1) * (own_bd p1))))] [(.int (own_ok [(q2.toInt32), (((q2.toUInt64 >>> ((32 : Int32) &&& 0x3f).toInt64.toUInt64).toInt64).toInt32), (q3.toInt32), (((q3.toUInt64 >>> ((32 : Int32) &&& 0x3f).toInt64.toUInt64).toInt64).toInt32), (q4.toInt32), (((q4.toUInt64 >>> ((32 : Int32) &&& 0x3f).toInt64.toUInt64).toInt64).toInt32), p5, p6] ys (1 : Int32) ((own_fs p1) + ((own_bf p1) * (own_bd p1))) (own_bd p1)))])) _
    refine XS.ifNo X61.here hx rfl (hb hby at_241) rfl ((if0 _ _).trans (feq (by rw [hok _ (by simp)]; decide : ¬ ((own_ok [(q2.toInt32), (((q2.toUInt64 >>> ((32 : Int32) &&& 0x3f).toInt64.toUInt64).toInt64).toInt32), (q3.toInt32), (((q3.toUInt64 >>> ((32 : Int32) &&& 0x3f).toInt64.toUInt64).toInt64).toInt32), (q4.toInt32), (((q4.toUInt64 >>> ((32 : Int32) &&& 0x3f).toInt64.toUInt64).toInt64).toInt32), p5, p6] ys (1 : Int32) ((own_fs p1) + ((own_bf p1) * (own_bd p1))) (own_bd p1)) = (0 : Int32)))).1) ?_
    show Steps p.tables e below (T61.setTop (mkF m 244 #[.val (.int p1), .val (.long q2), .second, .val (.long q3), .second, .val (.long q4), .second, .val (.int p5), .val (.int p6), .val (.int (own_bd p1)), .val (.int (own_fs p1)), .val (.int (own_bf p1)), .val (.ref b1), .val (.ref b18), .val (.ref b51), .val (.ref b18), .val (.int ((own_fs p1) + ((own_bf p1) * (own_bd p1))))] [])) _
    refine XS.aload X61.here hx rfl (hb hby at_244) rfl rfl ?_
    show Steps p.tables e below (T61.setTop (mkF m 246 #[.val (.int p1), .val (.long q2), .second, .val (.long q3), .second, .val (.long q4), .second, .val (.int p5), .val (.int p6), .val (.int (own_bd p1)), .val (.int (own_fs p1)), .val (.int (own_bf p1)), .val (.ref b1), .val (.ref b18), .val (.ref b51), .val (.ref b18), .val (.int ((own_fs p1) + ((own_bf p1) * (own_bd p1))))] [(.ref b1)])) _
    refine XS.aload X61.here hx rfl (hb hby at_246) rfl rfl ?_
    show Steps p.tables e below (T61.setTop (mkF m 248 #[.val (.int p1), .val (.long q2), .second, .val (.long q3), .second, .val (.long q4), .second, .val (.int p5), .val (.int p6), .val (.int (own_bd p1)), .val (.int (own_fs p1)), .val (.int (own_bf p1)), .val (.ref b1), .val (.ref b18), .val (.ref b51), .val (.ref b18), .val (.int ((own_fs p1) + ((own_bf p1) * (own_bd p1))))] [(.ref b18), (.ref b1)])) _
    refine XS.iconst X61.here hx rfl (hb hby at_248) ?_
    show Steps p.tables e below (T61.setTop (mkF m 249 #[.val (.int p1), .val (.long q2), .second, .val (.long q3), .second, .val (.long q4), .second, .val (.int p5), .val (.int p6), .val (.int (own_bd p1)), .val (.int (own_fs p1)), .val (.int (own_bf p1)), .val (.ref b1), .val (.ref b18), .val (.ref b51), .val (.ref b18), .val (.int ((own_fs p1) + ((own_bf p1) * (own_bd p1))))] [(.int (2 : Int32)), (.ref b18), (.ref b1)])) _
    refine XS.iload X61.here hx rfl (hb hby at_249) rfl ?_
    show Steps p.tables e below (T61.setTop (mkF m 251 #[.val (.int p1), .val (.long q2), .second, .val (.long q3), .second, .val (.long q4), .second, .val (.int p5), .val (.int p6), .val (.int (own_bd p1)), .val (.int (own_fs p1)), .val (.int (own_bf p1)), .val (.ref b1), .val (.ref b18), .val (.ref b51), .val (.ref b18), .val (.int ((own_fs p1) + ((own_bf p1) * (own_bd p1))))] [(.int ((own_fs p1) + ((own_bf p1) * (own_bd p1)))), (.int (2 : Int32)), (.ref b18), (.ref b1)])) _
    refine XS.iload X61.here hx rfl (hb hby at_251) rfl ?_
    show Steps p.tables e below (T61.setTop (mkF m 253 #[.val (.int p1), .val (.long q2), .second, .val (.long q3), .second, .val (.long q4), .second, .val (.int p5), .val (.int p6), .val (.int (own_bd p1)), .val (.int (own_fs p1)), .val (.int (own_bf p1)), .val (.ref b1), .val (.ref b18), .val (.ref b51), .val (.ref b18), .val (.int ((own_fs p1) + ((own_bf p1) * (own_bd p1))))] [(.int (own_bd p1)), (.int ((own_fs p1) + ((own_bf p1) * (own_bd p1)))), (.int (2 : Int32)), (.ref b18), (.ref b1)])) _
    refine st62 _ ?_
    show Steps p.tables e below (T62.setTop (mkF m 256 #[.val (.int p1), .val (.long q2), .second, .val (.long q3), .second, .val (.long q4), .second, .val (.int p5), .val (.int p6), .val (.int (own_bd p1)), .val (.int (own_fs p1)), .val (.int (own_bf p1)), .val (.ref b1), .val (.ref b18), .val (.ref b51), .val (.ref b18), .val (.int ((own_fs p1) + ((own_bf p1) * (own_bd p1))))] [(.int (own_ok [(q2.toInt32), (((q2.toUInt64 >>> ((32 : Int32) &&& 0x3f).toInt64.toUInt64).toInt64).toInt32), (q3.toInt32), (((q3.toUInt64 >>> ((32 : Int32) &&& 0x3f).toInt64.toUInt64).toInt64).toInt32), (q4.toInt32), (((q4.toUInt64 >>> ((32 : Int32) &&& 0x3f).toInt64.toUInt64).toInt64).toInt32), p5, p6] ys (2 : Int32) ((own_fs p1) + ((own_bf p1) * (own_bd p1))) (own_bd p1)))])) _
    refine XS.ifNo X62.here hx rfl (hb hby at_256) rfl ((if0 _ _).trans (feq (by rw [hok _ (by simp)]; decide : ¬ ((own_ok [(q2.toInt32), (((q2.toUInt64 >>> ((32 : Int32) &&& 0x3f).toInt64.toUInt64).toInt64).toInt32), (q3.toInt32), (((q3.toUInt64 >>> ((32 : Int32) &&& 0x3f).toInt64.toUInt64).toInt64).toInt32), (q4.toInt32), (((q4.toUInt64 >>> ((32 : Int32) &&& 0x3f).toInt64.toUInt64).toInt64).toInt32), p5, p6] ys (2 : Int32) ((own_fs p1) + ((own_bf p1) * (own_bd p1))) (own_bd p1)) = (0 : Int32)))).1) ?_
    show Steps p.tables e below (T62.setTop (mkF m 259 #[.val (.int p1), .val (.long q2), .second, .val (.long q3), .second, .val (.long q4), .second, .val (.int p5), .val (.int p6), .val (.int (own_bd p1)), .val (.int (own_fs p1)), .val (.int (own_bf p1)), .val (.ref b1), .val (.ref b18), .val (.ref b51), .val (.ref b18), .val (.int ((own_fs p1) + ((own_bf p1) * (own_bd p1))))] [])) _
    refine XS.aload X62.here hx rfl (hb hby at_259) rfl rfl ?_
    show Steps p.tables e below (T62.setTop (mkF m 261 #[.val (.int p1), .val (.long q2), .second, .val (.long q3), .second, .val (.long q4), .second, .val (.int p5), .val (.int p6), .val (.int (own_bd p1)), .val (.int (own_fs p1)), .val (.int (own_bf p1)), .val (.ref b1), .val (.ref b18), .val (.ref b51), .val (.ref b18), .val (.int ((own_fs p1) + ((own_bf p1) * (own_bd p1))))] [(.ref b1)])) _
    refine XS.aload X62.here hx rfl (hb hby at_261) rfl rfl ?_
    show Steps p.tables e below (T62.setTop (mkF m 263 #[.val (.int p1), .val (.long q2), .second, .val (.long q3), .second, .val (.long q4), .second, .val (.int p5), .val (.int p6), .val (.int (own_bd p1)), .val (.int (own_fs p1)), .val (.int (own_bf p1)), .val (.ref b1), .val (.ref b18), .val (.ref b51), .val (.ref b18), .val (.int ((own_fs p1) + ((own_bf p1) * (own_bd p1))))] [(.ref b18), (.ref b1)])) _
    refine XS.iconst X62.here hx rfl (hb hby at_263) ?_
    show Steps p.tables e below (T62.setTop (mkF m 264 #[.val (.int p1), .val (.long q2), .second, .val (.long q3), .second, .val (.long q4), .second, .val (.int p5), .val (.int p6), .val (.int (own_bd p1)), .val (.int (own_fs p1)), .val (.int (own_bf p1)), .val (.ref b1), .val (.ref b18), .val (.ref b51), .val (.ref b18), .val (.int ((own_fs p1) + ((own_bf p1) * (own_bd p1))))] [(.int (3 : Int32)), (.ref b18), (.ref b1)])) _
    refine XS.iload X62.here hx rfl (hb hby at_264) rfl ?_
    show Steps p.tables e below (T62.setTop (mkF m 266 #[.val (.int p1), .val (.long q2), .second, .val (.long q3), .second, .val (.long q4), .second, .val (.int p5), .val (.int p6), .val (.int (own_bd p1)), .val (.int (own_fs p1)), .val (.int (own_bf p1)), .val (.ref b1), .val (.ref b18), .val (.ref b51), .val (.ref b18), .val (.int ((own_fs p1) + ((own_bf p1) * (own_bd p1))))] [(.int ((own_fs p1) + ((own_bf p1) * (own_bd p1)))), (.int (3 : Int32)), (.ref b18), (.ref b1)])) _
    refine XS.iload X62.here hx rfl (hb hby at_266) rfl ?_
    show Steps p.tables e below (T62.setTop (mkF m 268 #[.val (.int p1), .val (.long q2), .second, .val (.long q3), .second, .val (.long q4), .second, .val (.int p5), .val (.int p6), .val (.int (own_bd p1)), .val (.int (own_fs p1)), .val (.int (own_bf p1)), .val (.ref b1), .val (.ref b18), .val (.ref b51), .val (.ref b18), .val (.int ((own_fs p1) + ((own_bf p1) * (own_bd p1))))] [(.int (own_bd p1)), (.int ((own_fs p1) + ((own_bf p1) * (own_bd p1)))), (.int (3 : Int32)), (.ref b18), (.ref b1)])) _
    refine st63 _ ?_
    show Steps p.tables e below (T63.setTop (mkF m 271 #[.val (.int p1), .val (.long q2), .second, .val (.long q3), .second, .val (.long q4), .second, .val (.int p5), .val (.int p6), .val (.int (own_bd p1)), .val (.int (own_fs p1)), .val (.int (own_bf p1)), .val (.ref b1), .val (.ref b18), .val (.ref b51), .val (.ref b18), .val (.int ((own_fs p1) + ((own_bf p1) * (own_bd p1))))] [(.int (own_ok [(q2.toInt32), (((q2.toUInt64 >>> ((32 : Int32) &&& 0x3f).toInt64.toUInt64).toInt64).toInt32), (q3.toInt32), (((q3.toUInt64 >>> ((32 : Int32) &&& 0x3f).toInt64.toUInt64).toInt64).toInt32), (q4.toInt32), (((q4.toUInt64 >>> ((32 : Int32) &&& 0x3f).toInt64.toUInt64).toInt64).toInt32), p5, p6] ys (3 : Int32) ((own_fs p1) + ((own_bf p1) * (own_bd p1))) (own_bd p1)))])) _
    refine XS.ifNo X63.here hx rfl (hb hby at_271) rfl ((if0 _ _).trans (feq (by rw [hok _ (by simp)]; decide : ¬ ((own_ok [(q2.toInt32), (((q2.toUInt64 >>> ((32 : Int32) &&& 0x3f).toInt64.toUInt64).toInt64).toInt32), (q3.toInt32), (((q3.toUInt64 >>> ((32 : Int32) &&& 0x3f).toInt64.toUInt64).toInt64).toInt32), (q4.toInt32), (((q4.toUInt64 >>> ((32 : Int32) &&& 0x3f).toInt64.toUInt64).toInt64).toInt32), p5, p6] ys (3 : Int32) ((own_fs p1) + ((own_bf p1) * (own_bd p1))) (own_bd p1)) = (0 : Int32)))).1) ?_
    show Steps p.tables e below (T63.setTop (mkF m 274 #[.val (.int p1), .val (.long q2), .second, .val (.long q3), .second, .val (.long q4), .second, .val (.int p5), .val (.int p6), .val (.int (own_bd p1)), .val (.int (own_fs p1)), .val (.int (own_bf p1)), .val (.ref b1), .val (.ref b18), .val (.ref b51), .val (.ref b18), .val (.int ((own_fs p1) + ((own_bf p1) * (own_bd p1))))] [])) _
    refine XS.aload X63.here hx rfl (hb hby at_274) rfl rfl ?_
    show Steps p.tables e below (T63.setTop (mkF m 276 #[.val (.int p1), .val (.long q2), .second, .val (.long q3), .second, .val (.long q4), .second, .val (.int p5), .val (.int p6), .val (.int (own_bd p1)), .val (.int (own_fs p1)), .val (.int (own_bf p1)), .val (.ref b1), .val (.ref b18), .val (.ref b51), .val (.ref b18), .val (.int ((own_fs p1) + ((own_bf p1) * (own_bd p1))))] [(.ref b1)])) _
    refine XS.aload X63.here hx rfl (hb hby at_276) rfl rfl ?_
    show Steps p.tables e below (T63.setTop (mkF m 278 #[.val (.int p1), .val (.long q2), .second, .val (.long q3), .second, .val (.long q4), .second, .val (.int p5), .val (.int p6), .val (.int (own_bd p1)), .val (.int (own_fs p1)), .val (.int (own_bf p1)), .val (.ref b1), .val (.ref b18), .val (.ref b51), .val (.ref b18), .val (.int ((own_fs p1) + ((own_bf p1) * (own_bd p1))))] [(.ref b18), (.ref b1)])) _
    refine XS.iconst X63.here hx rfl (hb hby at_278) ?_
    show Steps p.tables e below (T63.setTop (mkF m 279 #[.val (.int p1), .val (.long q2), .second, .val (.long q3), .second, .val (.long q4), .second, .val (.int p5), .val (.int p6), .val (.int (own_bd p1)), .val (.int (own_fs p1)), .val (.int (own_bf p1)), .val (.ref b1), .val (.ref b18), .val (.ref b51), .val (.ref b18), .val (.int ((own_fs p1) + ((own_bf p1) * (own_bd p1))))] [(.int (4 : Int32)), (.ref b18), (.ref b1)])) _
    refine XS.iload X63.here hx rfl (hb hby at_279) rfl ?_
    show Steps p.tables e below (T63.setTop (mkF m 281 #[.val (.int p1), .val (.long q2), .second, .val (.long q3), .second, .val (.long q4), .second, .val (.int p5), .val (.int p6), .val (.int (own_bd p1)), .val (.int (own_fs p1)), .val (.int (own_bf p1)), .val (.ref b1), .val (.ref b18), .val (.ref b51), .val (.ref b18), .val (.int ((own_fs p1) + ((own_bf p1) * (own_bd p1))))] [(.int ((own_fs p1) + ((own_bf p1) * (own_bd p1)))), (.int (4 : Int32)), (.ref b18), (.ref b1)])) _
    refine XS.iload X63.here hx rfl (hb hby at_281) rfl ?_
    show Steps p.tables e below (T63.setTop (mkF m 283 #[.val (.int p1), .val (.long q2), .second, .val (.long q3), .second, .val (.long q4), .second, .val (.int p5), .val (.int p6), .val (.int (own_bd p1)), .val (.int (own_fs p1)), .val (.int (own_bf p1)), .val (.ref b1), .val (.ref b18), .val (.ref b51), .val (.ref b18), .val (.int ((own_fs p1) + ((own_bf p1) * (own_bd p1))))] [(.int (own_bd p1)), (.int ((own_fs p1) + ((own_bf p1) * (own_bd p1)))), (.int (4 : Int32)), (.ref b18), (.ref b1)])) _
    refine st64 _ ?_
    show Steps p.tables e below (T64.setTop (mkF m 286 #[.val (.int p1), .val (.long q2), .second, .val (.long q3), .second, .val (.long q4), .second, .val (.int p5), .val (.int p6), .val (.int (own_bd p1)), .val (.int (own_fs p1)), .val (.int (own_bf p1)), .val (.ref b1), .val (.ref b18), .val (.ref b51), .val (.ref b18), .val (.int ((own_fs p1) + ((own_bf p1) * (own_bd p1))))] [(.int (own_ok [(q2.toInt32), (((q2.toUInt64 >>> ((32 : Int32) &&& 0x3f).toInt64.toUInt64).toInt64).toInt32), (q3.toInt32), (((q3.toUInt64 >>> ((32 : Int32) &&& 0x3f).toInt64.toUInt64).toInt64).toInt32), (q4.toInt32), (((q4.toUInt64 >>> ((32 : Int32) &&& 0x3f).toInt64.toUInt64).toInt64).toInt32), p5, p6] ys (4 : Int32) ((own_fs p1) + ((own_bf p1) * (own_bd p1))) (own_bd p1)))])) _
    refine XS.ifNo X64.here hx rfl (hb hby at_286) rfl ((if0 _ _).trans (feq (by rw [hok _ (by simp)]; decide : ¬ ((own_ok [(q2.toInt32), (((q2.toUInt64 >>> ((32 : Int32) &&& 0x3f).toInt64.toUInt64).toInt64).toInt32), (q3.toInt32), (((q3.toUInt64 >>> ((32 : Int32) &&& 0x3f).toInt64.toUInt64).toInt64).toInt32), (q4.toInt32), (((q4.toUInt64 >>> ((32 : Int32) &&& 0x3f).toInt64.toUInt64).toInt64).toInt32), p5, p6] ys (4 : Int32) ((own_fs p1) + ((own_bf p1) * (own_bd p1))) (own_bd p1)) = (0 : Int32)))).1) ?_
    show Steps p.tables e below (T64.setTop (mkF m 289 #[.val (.int p1), .val (.long q2), .second, .val (.long q3), .second, .val (.long q4), .second, .val (.int p5), .val (.int p6), .val (.int (own_bd p1)), .val (.int (own_fs p1)), .val (.int (own_bf p1)), .val (.ref b1), .val (.ref b18), .val (.ref b51), .val (.ref b18), .val (.int ((own_fs p1) + ((own_bf p1) * (own_bd p1))))] [])) _
    refine XS.aload X64.here hx rfl (hb hby at_289) rfl rfl ?_
    show Steps p.tables e below (T64.setTop (mkF m 291 #[.val (.int p1), .val (.long q2), .second, .val (.long q3), .second, .val (.long q4), .second, .val (.int p5), .val (.int p6), .val (.int (own_bd p1)), .val (.int (own_fs p1)), .val (.int (own_bf p1)), .val (.ref b1), .val (.ref b18), .val (.ref b51), .val (.ref b18), .val (.int ((own_fs p1) + ((own_bf p1) * (own_bd p1))))] [(.ref b1)])) _
    refine XS.aload X64.here hx rfl (hb hby at_291) rfl rfl ?_
    show Steps p.tables e below (T64.setTop (mkF m 293 #[.val (.int p1), .val (.long q2), .second, .val (.long q3), .second, .val (.long q4), .second, .val (.int p5), .val (.int p6), .val (.int (own_bd p1)), .val (.int (own_fs p1)), .val (.int (own_bf p1)), .val (.ref b1), .val (.ref b18), .val (.ref b51), .val (.ref b18), .val (.int ((own_fs p1) + ((own_bf p1) * (own_bd p1))))] [(.ref b18), (.ref b1)])) _
    refine XS.iconst X64.here hx rfl (hb hby at_293) ?_
    show Steps p.tables e below (T64.setTop (mkF m 294 #[.val (.int p1), .val (.long q2), .second, .val (.long q3), .second, .val (.long q4), .second, .val (.int p5), .val (.int p6), .val (.int (own_bd p1)), .val (.int (own_fs p1)), .val (.int (own_bf p1)), .val (.ref b1), .val (.ref b18), .val (.ref b51), .val (.ref b18), .val (.int ((own_fs p1) + ((own_bf p1) * (own_bd p1))))] [(.int (5 : Int32)), (.ref b18), (.ref b1)])) _
    refine XS.iload X64.here hx rfl (hb hby at_294) rfl ?_
    show Steps p.tables e below (T64.setTop (mkF m 296 #[.val (.int p1), .val (.long q2), .second, .val (.long q3), .second, .val (.long q4), .second, .val (.int p5), .val (.int p6), .val (.int (own_bd p1)), .val (.int (own_fs p1)), .val (.int (own_bf p1)), .val (.ref b1), .val (.ref b18), .val (.ref b51), .val (.ref b18), .val (.int ((own_fs p1) + ((own_bf p1) * (own_bd p1))))] [(.int ((own_fs p1) + ((own_bf p1) * (own_bd p1)))), (.int (5 : Int32)), (.ref b18), (.ref b1)])) _
    refine XS.iload X64.here hx rfl (hb hby at_296) rfl ?_
    show Steps p.tables e below (T64.setTop (mkF m 298 #[.val (.int p1), .val (.long q2), .second, .val (.long q3), .second, .val (.long q4), .second, .val (.int p5), .val (.int p6), .val (.int (own_bd p1)), .val (.int (own_fs p1)), .val (.int (own_bf p1)), .val (.ref b1), .val (.ref b18), .val (.ref b51), .val (.ref b18), .val (.int ((own_fs p1) + ((own_bf p1) * (own_bd p1))))] [(.int (own_bd p1)), (.int ((own_fs p1) + ((own_bf p1) * (own_bd p1)))), (.int (5 : Int32)), (.ref b18), (.ref b1)])) _
    refine st65 _ ?_
    show Steps p.tables e below (T65.setTop (mkF m 301 #[.val (.int p1), .val (.long q2), .second, .val (.long q3), .second, .val (.long q4), .second, .val (.int p5), .val (.int p6), .val (.int (own_bd p1)), .val (.int (own_fs p1)), .val (.int (own_bf p1)), .val (.ref b1), .val (.ref b18), .val (.ref b51), .val (.ref b18), .val (.int ((own_fs p1) + ((own_bf p1) * (own_bd p1))))] [(.int (own_ok [(q2.toInt32), (((q2.toUInt64 >>> ((32 : Int32) &&& 0x3f).toInt64.toUInt64).toInt64).toInt32), (q3.toInt32), (((q3.toUInt64 >>> ((32 : Int32) &&& 0x3f).toInt64.toUInt64).toInt64).toInt32), (q4.toInt32), (((q4.toUInt64 >>> ((32 : Int32) &&& 0x3f).toInt64.toUInt64).toInt64).toInt32), p5, p6] ys (5 : Int32) ((own_fs p1) + ((own_bf p1) * (own_bd p1))) (own_bd p1)))])) _
    refine XS.ifNo X65.here hx rfl (hb hby at_301) rfl ((if0 _ _).trans (feq (by rw [hok _ (by simp)]; decide : ¬ ((own_ok [(q2.toInt32), (((q2.toUInt64 >>> ((32 : Int32) &&& 0x3f).toInt64.toUInt64).toInt64).toInt32), (q3.toInt32), (((q3.toUInt64 >>> ((32 : Int32) &&& 0x3f).toInt64.toUInt64).toInt64).toInt32), (q4.toInt32), (((q4.toUInt64 >>> ((32 : Int32) &&& 0x3f).toInt64.toUInt64).toInt64).toInt32), p5, p6] ys (5 : Int32) ((own_fs p1) + ((own_bf p1) * (own_bd p1))) (own_bd p1)) = (0 : Int32)))).1) ?_
    show Steps p.tables e below (T65.setTop (mkF m 304 #[.val (.int p1), .val (.long q2), .second, .val (.long q3), .second, .val (.long q4), .second, .val (.int p5), .val (.int p6), .val (.int (own_bd p1)), .val (.int (own_fs p1)), .val (.int (own_bf p1)), .val (.ref b1), .val (.ref b18), .val (.ref b51), .val (.ref b18), .val (.int ((own_fs p1) + ((own_bf p1) * (own_bd p1))))] [])) _
    refine XS.aload X65.here hx rfl (hb hby at_304) rfl rfl ?_
    show Steps p.tables e below (T65.setTop (mkF m 306 #[.val (.int p1), .val (.long q2), .second, .val (.long q3), .second, .val (.long q4), .second, .val (.int p5), .val (.int p6), .val (.int (own_bd p1)), .val (.int (own_fs p1)), .val (.int (own_bf p1)), .val (.ref b1), .val (.ref b18), .val (.ref b51), .val (.ref b18), .val (.int ((own_fs p1) + ((own_bf p1) * (own_bd p1))))] [(.ref b1)])) _
    refine XS.aload X65.here hx rfl (hb hby at_306) rfl rfl ?_
    show Steps p.tables e below (T65.setTop (mkF m 308 #[.val (.int p1), .val (.long q2), .second, .val (.long q3), .second, .val (.long q4), .second, .val (.int p5), .val (.int p6), .val (.int (own_bd p1)), .val (.int (own_fs p1)), .val (.int (own_bf p1)), .val (.ref b1), .val (.ref b18), .val (.ref b51), .val (.ref b18), .val (.int ((own_fs p1) + ((own_bf p1) * (own_bd p1))))] [(.ref b18), (.ref b1)])) _
    refine XS.bipush X65.here hx rfl (hb hby at_308) ?_
    show Steps p.tables e below (T65.setTop (mkF m 310 #[.val (.int p1), .val (.long q2), .second, .val (.long q3), .second, .val (.long q4), .second, .val (.int p5), .val (.int p6), .val (.int (own_bd p1)), .val (.int (own_fs p1)), .val (.int (own_bf p1)), .val (.ref b1), .val (.ref b18), .val (.ref b51), .val (.ref b18), .val (.int ((own_fs p1) + ((own_bf p1) * (own_bd p1))))] [(.int (6 : Int32)), (.ref b18), (.ref b1)])) _
    refine XS.iload X65.here hx rfl (hb hby at_310) rfl ?_
    show Steps p.tables e below (T65.setTop (mkF m 312 #[.val (.int p1), .val (.long q2), .second, .val (.long q3), .second, .val (.long q4), .second, .val (.int p5), .val (.int p6), .val (.int (own_bd p1)), .val (.int (own_fs p1)), .val (.int (own_bf p1)), .val (.ref b1), .val (.ref b18), .val (.ref b51), .val (.ref b18), .val (.int ((own_fs p1) + ((own_bf p1) * (own_bd p1))))] [(.int ((own_fs p1) + ((own_bf p1) * (own_bd p1)))), (.int (6 : Int32)), (.ref b18), (.ref b1)])) _
    refine XS.iload X65.here hx rfl (hb hby at_312) rfl ?_
    show Steps p.tables e below (T65.setTop (mkF m 314 #[.val (.int p1), .val (.long q2), .second, .val (.long q3), .second, .val (.long q4), .second, .val (.int p5), .val (.int p6), .val (.int (own_bd p1)), .val (.int (own_fs p1)), .val (.int (own_bf p1)), .val (.ref b1), .val (.ref b18), .val (.ref b51), .val (.ref b18), .val (.int ((own_fs p1) + ((own_bf p1) * (own_bd p1))))] [(.int (own_bd p1)), (.int ((own_fs p1) + ((own_bf p1) * (own_bd p1)))), (.int (6 : Int32)), (.ref b18), (.ref b1)])) _
    refine st66 _ ?_
    show Steps p.tables e below (T66.setTop (mkF m 317 #[.val (.int p1), .val (.long q2), .second, .val (.long q3), .second, .val (.long q4), .second, .val (.int p5), .val (.int p6), .val (.int (own_bd p1)), .val (.int (own_fs p1)), .val (.int (own_bf p1)), .val (.ref b1), .val (.ref b18), .val (.ref b51), .val (.ref b18), .val (.int ((own_fs p1) + ((own_bf p1) * (own_bd p1))))] [(.int (own_ok [(q2.toInt32), (((q2.toUInt64 >>> ((32 : Int32) &&& 0x3f).toInt64.toUInt64).toInt64).toInt32), (q3.toInt32), (((q3.toUInt64 >>> ((32 : Int32) &&& 0x3f).toInt64.toUInt64).toInt64).toInt32), (q4.toInt32), (((q4.toUInt64 >>> ((32 : Int32) &&& 0x3f).toInt64.toUInt64).toInt64).toInt32), p5, p6] ys (6 : Int32) ((own_fs p1) + ((own_bf p1) * (own_bd p1))) (own_bd p1)))])) _
    refine XS.ifNo X66.here hx rfl (hb hby at_317) rfl ((if0 _ _).trans (feq (by rw [hok _ (by simp)]; decide : ¬ ((own_ok [(q2.toInt32), (((q2.toUInt64 >>> ((32 : Int32) &&& 0x3f).toInt64.toUInt64).toInt64).toInt32), (q3.toInt32), (((q3.toUInt64 >>> ((32 : Int32) &&& 0x3f).toInt64.toUInt64).toInt64).toInt32), (q4.toInt32), (((q4.toUInt64 >>> ((32 : Int32) &&& 0x3f).toInt64.toUInt64).toInt64).toInt32), p5, p6] ys (6 : Int32) ((own_fs p1) + ((own_bf p1) * (own_bd p1))) (own_bd p1)) = (0 : Int32)))).1) ?_
    show Steps p.tables e below (T66.setTop (mkF m 320 #[.val (.int p1), .val (.long q2), .second, .val (.long q3), .second, .val (.long q4), .second, .val (.int p5), .val (.int p6), .val (.int (own_bd p1)), .val (.int (own_fs p1)), .val (.int (own_bf p1)), .val (.ref b1), .val (.ref b18), .val (.ref b51), .val (.ref b18), .val (.int ((own_fs p1) + ((own_bf p1) * (own_bd p1))))] [])) _
    refine XS.aload X66.here hx rfl (hb hby at_320) rfl rfl ?_
    show Steps p.tables e below (T66.setTop (mkF m 322 #[.val (.int p1), .val (.long q2), .second, .val (.long q3), .second, .val (.long q4), .second, .val (.int p5), .val (.int p6), .val (.int (own_bd p1)), .val (.int (own_fs p1)), .val (.int (own_bf p1)), .val (.ref b1), .val (.ref b18), .val (.ref b51), .val (.ref b18), .val (.int ((own_fs p1) + ((own_bf p1) * (own_bd p1))))] [(.ref b1)])) _
    refine XS.aload X66.here hx rfl (hb hby at_322) rfl rfl ?_
    show Steps p.tables e below (T66.setTop (mkF m 324 #[.val (.int p1), .val (.long q2), .second, .val (.long q3), .second, .val (.long q4), .second, .val (.int p5), .val (.int p6), .val (.int (own_bd p1)), .val (.int (own_fs p1)), .val (.int (own_bf p1)), .val (.ref b1), .val (.ref b18), .val (.ref b51), .val (.ref b18), .val (.int ((own_fs p1) + ((own_bf p1) * (own_bd p1))))] [(.ref b18), (.ref b1)])) _
    refine XS.bipush X66.here hx rfl (hb hby at_324) ?_
    show Steps p.tables e below (T66.setTop (mkF m 326 #[.val (.int p1), .val (.long q2), .second, .val (.long q3), .second, .val (.long q4), .second, .val (.int p5), .val (.int p6), .val (.int (own_bd p1)), .val (.int (own_fs p1)), .val (.int (own_bf p1)), .val (.ref b1), .val (.ref b18), .val (.ref b51), .val (.ref b18), .val (.int ((own_fs p1) + ((own_bf p1) * (own_bd p1))))] [(.int (7 : Int32)), (.ref b18), (.ref b1)])) _
    refine XS.iload X66.here hx rfl (hb hby at_326) rfl ?_
    show Steps p.tables e below (T66.setTop (mkF m 328 #[.val (.int p1), .val (.long q2), .second, .val (.long q3), .second, .val (.long q4), .second, .val (.int p5), .val (.int p6), .val (.int (own_bd p1)), .val (.int (own_fs p1)), .val (.int (own_bf p1)), .val (.ref b1), .val (.ref b18), .val (.ref b51), .val (.ref b18), .val (.int ((own_fs p1) + ((own_bf p1) * (own_bd p1))))] [(.int ((own_fs p1) + ((own_bf p1) * (own_bd p1)))), (.int (7 : Int32)), (.ref b18), (.ref b1)])) _
    refine XS.iload X66.here hx rfl (hb hby at_328) rfl ?_
    show Steps p.tables e below (T66.setTop (mkF m 330 #[.val (.int p1), .val (.long q2), .second, .val (.long q3), .second, .val (.long q4), .second, .val (.int p5), .val (.int p6), .val (.int (own_bd p1)), .val (.int (own_fs p1)), .val (.int (own_bf p1)), .val (.ref b1), .val (.ref b18), .val (.ref b51), .val (.ref b18), .val (.int ((own_fs p1) + ((own_bf p1) * (own_bd p1))))] [(.int (own_bd p1)), (.int ((own_fs p1) + ((own_bf p1) * (own_bd p1)))), (.int (7 : Int32)), (.ref b18), (.ref b1)])) _
    refine st67 _ ?_
    show Steps p.tables e below (T67.setTop (mkF m 333 #[.val (.int p1), .val (.long q2), .second, .val (.long q3), .second, .val (.long q4), .second, .val (.int p5), .val (.int p6), .val (.int (own_bd p1)), .val (.int (own_fs p1)), .val (.int (own_bf p1)), .val (.ref b1), .val (.ref b18), .val (.ref b51), .val (.ref b18), .val (.int ((own_fs p1) + ((own_bf p1) * (own_bd p1))))] [(.int (own_ok [(q2.toInt32), (((q2.toUInt64 >>> ((32 : Int32) &&& 0x3f).toInt64.toUInt64).toInt64).toInt32), (q3.toInt32), (((q3.toUInt64 >>> ((32 : Int32) &&& 0x3f).toInt64.toUInt64).toInt64).toInt32), (q4.toInt32), (((q4.toUInt64 >>> ((32 : Int32) &&& 0x3f).toInt64.toUInt64).toInt64).toInt32), p5, p6] ys (7 : Int32) ((own_fs p1) + ((own_bf p1) * (own_bd p1))) (own_bd p1)))])) _
    refine XS.ifNo X67.here hx rfl (hb hby at_333) rfl ((if0 _ _).trans (feq (by rw [hok _ (by simp)]; decide : ¬ ((own_ok [(q2.toInt32), (((q2.toUInt64 >>> ((32 : Int32) &&& 0x3f).toInt64.toUInt64).toInt64).toInt32), (q3.toInt32), (((q3.toUInt64 >>> ((32 : Int32) &&& 0x3f).toInt64.toUInt64).toInt64).toInt32), (q4.toInt32), (((q4.toUInt64 >>> ((32 : Int32) &&& 0x3f).toInt64.toUInt64).toInt64).toInt32), p5, p6] ys (7 : Int32) ((own_fs p1) + ((own_bf p1) * (own_bd p1))) (own_bd p1)) = (0 : Int32)))).1) ?_
    show Steps p.tables e below (T67.setTop (mkF m 336 #[.val (.int p1), .val (.long q2), .second, .val (.long q3), .second, .val (.long q4), .second, .val (.int p5), .val (.int p6), .val (.int (own_bd p1)), .val (.int (own_fs p1)), .val (.int (own_bf p1)), .val (.ref b1), .val (.ref b18), .val (.ref b51), .val (.ref b18), .val (.int ((own_fs p1) + ((own_bf p1) * (own_bd p1))))] [])) _
    refine XS.iconst X67.here hx rfl (hb hby at_336) ?_
    show Steps p.tables e below (T67.setTop (mkF m 337 #[.val (.int p1), .val (.long q2), .second, .val (.long q3), .second, .val (.long q4), .second, .val (.int p5), .val (.int p6), .val (.int (own_bd p1)), .val (.int (own_fs p1)), .val (.int (own_bf p1)), .val (.ref b1), .val (.ref b18), .val (.ref b51), .val (.ref b18), .val (.int ((own_fs p1) + ((own_bf p1) * (own_bd p1))))] [(.int (1 : Int32))])) _
    refine XS.goto X67.here hx rfl (pc0 := 337) (pc' := 341) rfl (hb hby at_337) (by decide) (by decide) ?_
    show Steps p.tables e below (T67.setTop (mkF m 341 #[.val (.int p1), .val (.long q2), .second, .val (.long q3), .second, .val (.long q4), .second, .val (.int p5), .val (.int p6), .val (.int (own_bd p1)), .val (.int (own_fs p1)), .val (.int (own_bf p1)), .val (.ref b1), .val (.ref b18), .val (.ref b51), .val (.ref b18), .val (.int ((own_fs p1) + ((own_bf p1) * (own_bd p1))))] [(.int (1 : Int32))])) _
    exact retN X67 hx (t := .boolean) Bd.returns (by simp) (hb hby at_341) hr
  · show Qown_law Z p1 q2 q3 q4 p5 p6 d1 h0 n0 _ T67.heap _
    rw [e67]
    exact ⟨rfl, N67⟩
set_option maxRecDepth 65536 in
set_option maxHeartbeats 40000000 in
theorem comes_1 {Post : Tables → Env → Array Value → State → Outcome → State → Prop} (hpost : ∀ tb e args s v u, (limb_1_1.after args s (.returned v) u = true ∧ limb_1_2.after args s (.returned v) u = true ∧ True) → FrameEnd s (.returned v) u (Jvm.fieldLocs frame_1_writes args s ++ Jvm.arrayLocs frame_1_arrays args s ++ Jvm.staticLocs frame_1_statics s) 24 192 → Post tb e args s (.returned v) u) :
    ArmFor flags0 classFile x code maxLocals ret World_1 tables_1 room_1 Calls_1 rest_1 Pre_1 Post := by
  intro l hfl _ _ p e ha hc hk s m args below hf hA hF happ hP
  obtain ⟨hcalls, hrest, hpre⟩ := hP
  obtain ⟨-, -, -, hnamed, -, -, -, hat⟩ := (Spec.applies_iff hf).mp happ
  obtain ⟨hg, hn⟩ := and_e (Cond.before_iff.mp (show (Jvm.Cond.and given_1 narrow_1).before args s = true from hpre))
  obtain ⟨g1, g2⟩ := and_e hg
  obtain ⟨g3, g4⟩ := and_e g2
  obtain ⟨g5, g6⟩ := and_e g4
  obtain ⟨g7, g8⟩ := and_e g6
  obtain ⟨g9, g10⟩ := and_e g8
  obtain ⟨g11, g12⟩ := and_e g10
  obtain ⟨w0, w1, w2, w3, w4, w5, rfl⟩ : ∃ w0 w1 w2 w3 w4 w5 : Value, args = #[w0, w1, w2, w3, w4, w5] := by
    have hs : args.size = 6 := by simpa [Cond.value, given_1] using g1
    obtain ⟨L⟩ := args
    match L, hs with
    | [w0, w1, w2, w3, w4, w5], _ => exact ⟨w0, w1, w2, w3, w4, w5, rfl⟩
  have hw := fun d (hd : d ∈ tables_1) => atoms_spec (ws := Jvm.Cond.code x code maxLocals ret :: tables_1) hat d (List.mem_cons_of_mem _ hd)
  have hfit : Fit s := fun {y c} hc i hi => by
    obtain ⟨ha, rfl⟩ := Array.getElem?_eq_some_iff.mp hc
    have q := List.all_eq_true.mp ((Array.all_eq_true_iff_forall_mem.mp hF) _ (Array.getElem_mem ha)) i (List.mem_range.mpr hi)
    simpa [Array.getElem?_eq_getElem hi] using q
  obtain ⟨hsets, hown0⟩ := atoms_of _ (rest_1_c_eq ▸ (show rest_1_c.before _ s = true from hrest))
  have hr0 := Cond.before_iff.mp hown0
  obtain ⟨i0, ei0⟩ := is_v g3
  obtain rfl : w0 = (.int i0) := Option.some.inj ei0
  obtain ⟨i1, ei1⟩ := isL_v g5
  obtain rfl : w1 = (.long i1) := Option.some.inj ei1
  obtain ⟨i2, ei2⟩ := isL_v g7
  obtain rfl : w2 = (.long i2) := Option.some.inj ei2
  obtain ⟨i3, ei3⟩ := isL_v g9
  obtain rfl : w3 = (.long i3) := Option.some.inj ei3
  obtain ⟨i4, ei4⟩ := is_v g11
  obtain rfl : w4 = (.int i4) := Option.some.inj ei4
  obtain ⟨i5, ei5⟩ := is_v g12
  obtain rfl : w5 = (.int i5) := Option.some.inj ei5
  obtain ⟨d1, ed⟩ := exa_v (Cond.before_iff.mp (hsets _ (List.mem_of_getElem? (i := 7) rfl)))
  have S1 : Sta s s.heap "java/util/ArrayList" "DEFAULTCAPACITY_EMPTY_ELEMENTDATA" "[Ljava/lang/Object;" (.ref d1) := Sta.start ed (Or.inr ⟨(hw _ (List.mem_of_getElem? (i := 32) rfl)), hsets _ (List.mem_of_getElem? (i := 2) rfl)⟩)
  obtain ⟨n, o, h1, h2, h3, _, L, rfl, ⟨rfl, N⟩, hq⟩ := own_law l s _ hw tables_1 i0 i1 i2 i3 i4 i5 d1 s.heap s.heap.size (Nat.le_refl _) S1 p e ha hc hk s m _ below hf ((Spec.applies_iff_loose hf).mp happ).1 ⟨rfl, State.Warmed39.refl s, rfl⟩ trivial
  refine ⟨n, _, h1, h2, h3, hpost _ _ _ _ _ _ ⟨Cond.after_iff.mpr rfl, Cond.after_iff.mpr (eq_i res_at (Term.int_eval (1)) rfl), trivial⟩ ⟨hq.1, hq.2.1, (hq.2.2.sift fun y hy => Or.inr (N y hy)).mono (by decide) (by decide)⟩⟩
theorem main_1_1 : Claimed_1_1 := comes_1 fun _ _ _ _ _ _ h hF => ⟨h.1, hF⟩
theorem main_1_2 : Claimed_1_2 := comes_1 fun _ _ _ _ _ _ h hF => ⟨h.2.1, hF⟩
end Jvm.Pilot.@@N@@
namespace Jvm.Pilot.@@N@@
open Jvm Jvm.ClassFile Sem Op Lib Jvm.Free Jvm.Stand Jvm.Pilot.@@N@@.Jvm.D
/-! MADE BY PROGRAM (witnessworld.py) out of the Statement's table words and the real class files: 22 classes; the members and pool entries that the words name. The judged class is class 1, her method 1. -/
namespace start1
open Jvm.ClassFile
def u (s : String) : CpInfo := .utf8 (stringToUtf16 s)
/-- a pool by its gaps: so many unusable entries, then the entry; so many at the end -/
def gap : Nat → List CpInfo → List CpInfo
  | 0, r => r
  | n + 1, r => .unusable :: gap n r
def poolList (es : List (Nat × CpInfo)) (last : Nat) : List CpInfo := es.foldr (fun e r => gap e.1 (e.2 :: r)) (gap last [])
def pool (es : List (Nat × CpInfo)) (last : Nat) : Array CpInfo := ⟨poolList es last⟩
def fileOf (pool : Array CpInfo) (this : Nat) (attrs : Array Attribute := #[]) (ms : Array MethodInfo := #[]) (fl : Nat := 33) (sup : Nat := 0) (ifs : Array Nat := #[]) (fds : Array FieldInfo := #[]) : ClassFile where
  minorVersion := 0
  majorVersion := 65
  constantPool := pool
  accessFlags := fl
  thisClass := this
  superClass := sup
  interfaces := ifs
  fields := fds
  methods := ms
  attributes := attrs
def plain (name : String) (sup : Option ClassId) : Class where
  name := name
  kind := .ordinary
  loader := none
  accessFlags := 33
  super := sup
  interfaces := #[]
  cf := none
  fields := #[]
  methods := #[]
  instanceTypes := #[]
  staticTypes := #[]
  resolved := #[]
  callSites := []
  init := .initialized
  statics := none
  mirror := none

def pool0 : Array CpInfo := pool [(5, u "<init>"), (0, u "()V"), (1, .class_ 10), (1, u "java/lang/Object")] 113

def k0c0 : Code := { maxStack := 0, maxLocals := 1, code := object_method_1_code, exceptionTable := #[], attributes := #[] }
def k0m0 : Method := { name := "<init>", desc := "()V", sig := { parameters := [], returnType := none }, accessFlags := 1, code := some k0c0 }
/-- java/lang/Object -/
def k0 : Class := { plain "java/lang/Object" none with
  accessFlags := 33
  interfaces := #[]
  cf := some (fileOf pool0 8 #[] #[{ accessFlags := 1, nameIndex := 5, descriptorIndex := 6, attributes := #[] }] 33 0 #[] #[])
  fields := #[]
  methods := #[k0m0]
  instanceTypes := #[]
  staticTypes := #[]
  resolved := Array.replicate 124 none
  statics := none }

def pool1 : Array CpInfo := pool [(2, .class_ 4), (1, u "java/lang/Object"), (0, u "<init>"), (0, u "()V"), (0, .class_ 8), (0, u "com/example/orbweaver/orbweaver/engine/Buffers"), (0, .methodref 7 10), (0, .nameAndType 5 11), (0, u "(I)V"), (0, .methodref 7 13), (0, .nameAndType 14 11), (0, u "place"), (0, .methodref 7 16), (0, .nameAndType 17 18), (0, u "take"), (0, u "([II)[I"), (0, .methodref 20 21), (0, .class_ 22), (0, .nameAndType 23 24), (0, u "com/example/orbweaver/orbweaver/engine/BuffersTakePinLaw"), (0, u "ok"), (0, u "([I[IIII)Z"), (2, u "law"), (0, u "(IJJJII)Z")] 5

def k1m0 : Method := { name := "<init>", desc := "()V", sig := { parameters := [], returnType := none }, accessFlags := 1, code := none }
def k1c1 : Code := { maxStack := 5, maxLocals := 17, code := code, exceptionTable := #[], attributes := #[] }
def k1m1 : Method := { name := "law", desc := "(IJJJII)Z", sig := { parameters := [.int, .long, .long, .long, .int, .int], returnType := some .boolean }, accessFlags := 9, code := some k1c1 }
def k1c2 : Code := { maxStack := 3, maxLocals := 6, code := method_3_code, exceptionTable := #[], attributes := #[] }
def k1m2 : Method := { name := "ok", desc := "([I[IIII)Z", sig := { parameters := [(.array .int), (.array .int), .int, .int, .int], returnType := some .boolean }, accessFlags := 10, code := some k1c2 }
/-- com/example/orbweaver/orbweaver/engine/BuffersTakePinLaw -/
def k1 : Class := { plain "com/example/orbweaver/orbweaver/engine/BuffersTakePinLaw" (some 0) with
  accessFlags := 49
  interfaces := #[]
  cf := some (fileOf pool1 20 #[] #[{ accessFlags := 1, nameIndex := 5, descriptorIndex := 6, attributes := #[] }, { accessFlags := 9, nameIndex := 27, descriptorIndex := 28, attributes := #[] }, { accessFlags := 10, nameIndex := 23, descriptorIndex := 24, attributes := #[] }] 49 2 #[] #[])
  fields := #[]
  methods := #[k1m0, k1m1, k1m2]
  instanceTypes := #[]
  staticTypes := #[]
  resolved := Array.replicate 34 none
  statics := none }

def pool2 : Array CpInfo := pool [(1, .methodref 2 3), (0, .class_ 4), (0, .nameAndType 5 6), (0, u "java/lang/Object"), (0, u "<init>"), (0, u "()V"), (0, .class_ 8), (0, u "java/util/HashMap"), (0, .methodref 7 3), (0, .fieldref 11 12), (0, .class_ 13), (0, .nameAndType 14 15), (0, u "com/example/orbweaver/orbweaver/engine/Buffers"), (0, u "buffers"), (0, u "Ljava/util/Map;"), (0, .fieldref 11 17), (0, .nameAndType 18 15), (0, u "numbers"), (0, .class_ 20), (0, u "java/util/ArrayList"), (0, .methodref 19 3), (0, .fieldref 11 23), (0, .nameAndType 24 25), (0, u "messages"), (0, u "Ljava/util/List;"), (0, .fieldref 11 27), (0, .nameAndType 28 29), (0, u "first"), (0, u "I"), (0, .fieldref 11 31), (0, .nameAndType 32 29), (0, u "bound"), (0, .class_ 34), (0, u "com/example/orbweaver/orbweaver/engine/Buffers$BufferKey"), (19, .class_ 55), (0, u "com/example/orbweaver/orbweaver/engine/Buffers$MessageKey"), (26, .class_ 84), (1, u "com/example/orbweaver/orbweaver/engine/Buffers$Message"), (1, .methodref 87 88), (0, .class_ 89), (0, .nameAndType 90 91), (0, u "java/lang/System"), (0, u "arraycopy"), (0, u "(Ljava/lang/Object;ILjava/lang/Object;II)V"), (30, u "NO_MESSAGE"), (6, u "(I)V"), (8, u "place"), (6, u "([II)[I"), (2, u "take")] 38

def k2c0 : Code := { maxStack := 3, maxLocals := 2, code := prog_13_method_1_code, exceptionTable := #[], attributes := #[] }
def k2m0 : Method := { name := "<init>", desc := "(I)V", sig := { parameters := [.int], returnType := none }, accessFlags := 0, code := some k2c0 }
def k2c1 : Code := { maxStack := 2, maxLocals := 2, code := prog_13_method_6_code, exceptionTable := #[], attributes := #[] }
def k2m1 : Method := { name := "place", desc := "(I)V", sig := { parameters := [.int], returnType := none }, accessFlags := 0, code := some k2c1 }
def k2c2 : Code := { maxStack := 6, maxLocals := 4, code := prog_13_method_11_code, exceptionTable := #[], attributes := #[] }
def k2m2 : Method := { name := "take", desc := "([II)[I", sig := { parameters := [(.array .int), .int], returnType := some (.array .int) }, accessFlags := 0, code := some k2c2 }
/-- com/example/orbweaver/orbweaver/engine/Buffers -/
def k2 : Class := { plain "com/example/orbweaver/orbweaver/engine/Buffers" (some 0) with
  accessFlags := 48
  interfaces := #[]
  cf := some (fileOf pool2 11 #[.nestMembers #[82, 54, 33]] #[{ accessFlags := 0, nameIndex := 5, descriptorIndex := 129, attributes := #[] }, { accessFlags := 0, nameIndex := 138, descriptorIndex := 129, attributes := #[] }, { accessFlags := 0, nameIndex := 148, descriptorIndex := 145, attributes := #[] }] 48 2 #[] #[{ accessFlags := 24, nameIndex := 122, descriptorIndex := 29, attributes := #[] }, { accessFlags := 18, nameIndex := 32, descriptorIndex := 29, attributes := #[] }, { accessFlags := 18, nameIndex := 14, descriptorIndex := 15, attributes := #[] }, { accessFlags := 18, nameIndex := 18, descriptorIndex := 15, attributes := #[] }, { accessFlags := 18, nameIndex := 24, descriptorIndex := 25, attributes := #[] }, { accessFlags := 2, nameIndex := 28, descriptorIndex := 29, attributes := #[] }])
  fields := #[{ name := "NO_MESSAGE", type := .int, accessFlags := 24, slot := 0, constantValue := 0 }, { name := "bound", type := .int, accessFlags := 18, slot := 0, constantValue := 0 }, { name := "buffers", type := (.object "java/util/Map"), accessFlags := 18, slot := 1, constantValue := 0 }, { name := "numbers", type := (.object "java/util/Map"), accessFlags := 18, slot := 2, constantValue := 0 }, { name := "messages", type := (.object "java/util/List"), accessFlags := 18, slot := 3, constantValue := 0 }, { name := "first", type := .int, accessFlags := 2, slot := 4, constantValue := 0 }]
  methods := #[k2m0, k2m1, k2m2]
  instanceTypes := #[.int, (.object "java/util/Map"), (.object "java/util/Map"), (.object "java/util/List"), .int]
  staticTypes := #[.int]
  resolved := Array.replicate 187 none
  statics := none }

def pool3 : Array CpInfo := pool [(2, .class_ 4), (1, u "java/util/Map"), (31, .class_ 37), (0, u "java/util/Map$Entry"), (55, .class_ 94), (0, u "java/lang/Object")] 168

/-- java/util/Map -/
def k3 : Class := { plain "java/util/Map" (some 0) with
  accessFlags := 1537
  interfaces := #[]
  cf := some (fileOf pool3 2 #[.nestMembers #[36]] #[] 1537 93 #[] #[])
  fields := #[]
  methods := #[]
  instanceTypes := #[]
  staticTypes := #[]
  resolved := Array.replicate 263 none
  statics := none }

def pool4 : Array CpInfo := pool [(1, .methodref 2 3), (0, .class_ 4), (0, .nameAndType 5 6), (0, u "java/lang/Object"), (0, u "<init>"), (0, u "()V"), (1, .class_ 10), (1, u "java/util/AbstractMap"), (42, .class_ 54), (0, u "java/util/Map"), (9, u "keySet"), (0, u "Ljava/util/Set;"), (0, .class_ 67), (0, u "java/util/AbstractMap$1"), (5, u "values"), (0, u "Ljava/util/Collection;"), (0, .class_ 76), (0, u "java/util/AbstractMap$2"), (104, .class_ 182), (0, u "java/util/AbstractMap$ViewCollection"), (0, .class_ 184), (0, u "java/util/AbstractMap$SimpleImmutableEntry"), (0, .class_ 186), (0, u "java/util/AbstractMap$SimpleEntry"), (0, .class_ 188), (0, u "java/util/AbstractMap$2$1"), (0, .class_ 190), (0, u "java/util/AbstractMap$1$1")] 5

def k4c0 : Code := { maxStack := 1, maxLocals := 1, code := jdk_71_method_1_code, exceptionTable := #[], attributes := #[] }
def k4m0 : Method := { name := "<init>", desc := "()V", sig := { parameters := [], returnType := none }, accessFlags := 4, code := some k4c0 }
/-- java/util/AbstractMap -/
def k4 : Class := { plain "java/util/AbstractMap" (some 0) with
  accessFlags := 1057
  interfaces := #[3]
  cf := some (fileOf pool4 8 #[.nestMembers #[181, 183, 185, 75, 187, 66, 189]] #[{ accessFlags := 4, nameIndex := 5, descriptorIndex := 6, attributes := #[] }] 1057 2 #[53] #[{ accessFlags := 128, nameIndex := 64, descriptorIndex := 65, attributes := #[] }, { accessFlags := 128, nameIndex := 73, descriptorIndex := 74, attributes := #[] }])
  fields := #[{ name := "keySet", type := (.object "java/util/Set"), accessFlags := 128, slot := 0, constantValue := 0 }, { name := "values", type := (.object "java/util/Collection"), accessFlags := 128, slot := 1, constantValue := 0 }]
  methods := #[k4m0]
  instanceTypes := #[(.object "java/util/Set"), (.object "java/util/Collection")]
  staticTypes := #[]
  resolved := Array.replicate 196 none
  statics := none }

def pool5 : Array CpInfo := pool [(1, .class_ 2), (0, u "java/lang/Cloneable"), (0, .class_ 4), (0, u "java/lang/Object")] 2

/-- java/lang/Cloneable -/
def k5 : Class := { plain "java/lang/Cloneable" (some 0) with
  accessFlags := 1537
  interfaces := #[]
  cf := some (fileOf pool5 1 #[] #[] 1537 3 #[] #[])
  fields := #[]
  methods := #[]
  instanceTypes := #[]
  staticTypes := #[]
  resolved := Array.replicate 7 none
  statics := none }

def pool6 : Array CpInfo := pool [(1, .class_ 2), (0, u "java/io/Serializable"), (0, .class_ 4), (0, u "java/lang/Object")] 2

/-- java/io/Serializable -/
def k6 : Class := { plain "java/io/Serializable" (some 0) with
  accessFlags := 1537
  interfaces := #[]
  cf := some (fileOf pool6 1 #[] #[] 1537 3 #[] #[])
  fields := #[]
  methods := #[]
  instanceTypes := #[]
  staticTypes := #[]
  resolved := Array.replicate 7 none
  statics := none }

def pool7 : Array CpInfo := pool [(40, .class_ 41), (0, u "java/util/HashMap"), (1, .methodref 44 45), (0, .class_ 46), (0, .nameAndType 47 48), (0, u "java/util/AbstractMap"), (0, u "<init>"), (0, u "()V"), (32, .fieldref 40 82), (0, .nameAndType 83 84), (0, u "loadFactor"), (0, u "F"), (5, u "threshold"), (0, u "I"), (0, .float 1061158912), (8, .class_ 103), (1, u "java/util/Map"), (0, u "size"), (2, u "table"), (0, u "[Ljava/util/HashMap$Node;"), (14, u "entrySet"), (39, .class_ 165), (1, u "java/util/HashMap$Node"), (14, .class_ 181), (0, u "java/util/HashMap$TreeNode"), (22, u "modCount"), (37, u "Ljava/util/Set;"), (0, .class_ 244), (0, u "java/util/HashMap$KeySet"), (18, .class_ 264), (0, u "java/util/HashMap$Values"), (3, .class_ 269), (0, u "java/util/HashMap$EntrySet"), (76, .class_ 348), (1, u "java/util/HashMap$UnsafeHolder"), (43, .class_ 393), (0, u "java/lang/Cloneable"), (0, .class_ 395), (0, u "java/io/Serializable"), (0, u "serialVersionUID"), (0, u "J"), (3, u "DEFAULT_INITIAL_CAPACITY"), (1, u "MAXIMUM_CAPACITY"), (0, u "DEFAULT_LOAD_FACTOR"), (0, u "TREEIFY_THRESHOLD"), (1, u "UNTREEIFY_THRESHOLD"), (1, u "MIN_TREEIFY_CAPACITY"), (186, .class_ 597), (0, u "java/util/HashMap$EntrySpliterator"), (0, .class_ 599), (0, u "java/util/HashMap$ValueSpliterator"), (0, .class_ 601), (0, u "java/util/HashMap$KeySpliterator"), (0, .class_ 603), (0, u "java/util/HashMap$HashMapSpliterator"), (0, .class_ 605), (0, u "java/util/HashMap$EntryIterator"), (0, .class_ 607), (0, u "java/util/HashMap$ValueIterator"), (0, .class_ 609), (0, u "java/util/HashMap$KeyIterator"), (0, .class_ 611), (0, u "java/util/HashMap$HashIterator")] 17

def k7c0 : Code := { maxStack := 2, maxLocals := 1, code := jdk_69_method_7_code, exceptionTable := #[], attributes := #[] }
def k7m0 : Method := { name := "<init>", desc := "()V", sig := { parameters := [], returnType := none }, accessFlags := 1, code := some k7c0 }
/-- java/util/HashMap -/
def k7 : Class := { plain "java/util/HashMap" (some 4) with
  accessFlags := 33
  interfaces := #[3, 5, 6]
  cf := some (fileOf pool7 40 #[.nestMembers #[180, 596, 598, 600, 602, 604, 606, 608, 610, 346, 268, 263, 243, 163]] #[{ accessFlags := 1, nameIndex := 47, descriptorIndex := 48, attributes := #[] }] 33 44 #[101, 392, 394] #[{ accessFlags := 26, nameIndex := 396, descriptorIndex := 397, attributes := #[] }, { accessFlags := 24, nameIndex := 401, descriptorIndex := 91, attributes := #[] }, { accessFlags := 24, nameIndex := 403, descriptorIndex := 91, attributes := #[] }, { accessFlags := 24, nameIndex := 404, descriptorIndex := 84, attributes := #[] }, { accessFlags := 24, nameIndex := 405, descriptorIndex := 91, attributes := #[] }, { accessFlags := 24, nameIndex := 407, descriptorIndex := 91, attributes := #[] }, { accessFlags := 24, nameIndex := 409, descriptorIndex := 91, attributes := #[] }, { accessFlags := 128, nameIndex := 107, descriptorIndex := 108, attributes := #[] }, { accessFlags := 128, nameIndex := 123, descriptorIndex := 242, attributes := #[] }, { accessFlags := 128, nameIndex := 104, descriptorIndex := 91, attributes := #[] }, { accessFlags := 128, nameIndex := 204, descriptorIndex := 91, attributes := #[] }, { accessFlags := 0, nameIndex := 90, descriptorIndex := 91, attributes := #[] }, { accessFlags := 16, nameIndex := 83, descriptorIndex := 84, attributes := #[] }])
  fields := #[{ name := "serialVersionUID", type := .long, accessFlags := 26, slot := 0, constantValue := 0 }, { name := "DEFAULT_INITIAL_CAPACITY", type := .int, accessFlags := 24, slot := 1, constantValue := 0 }, { name := "MAXIMUM_CAPACITY", type := .int, accessFlags := 24, slot := 2, constantValue := 0 }, { name := "DEFAULT_LOAD_FACTOR", type := .float, accessFlags := 24, slot := 3, constantValue := 0 }, { name := "TREEIFY_THRESHOLD", type := .int, accessFlags := 24, slot := 4, constantValue := 0 }, { name := "UNTREEIFY_THRESHOLD", type := .int, accessFlags := 24, slot := 5, constantValue := 0 }, { name := "MIN_TREEIFY_CAPACITY", type := .int, accessFlags := 24, slot := 6, constantValue := 0 }, { name := "table", type := (.array (.object "java/util/HashMap$Node")), accessFlags := 128, slot := 2, constantValue := 0 }, { name := "entrySet", type := (.object "java/util/Set"), accessFlags := 128, slot := 3, constantValue := 0 }, { name := "size", type := .int, accessFlags := 128, slot := 4, constantValue := 0 }, { name := "modCount", type := .int, accessFlags := 128, slot := 5, constantValue := 0 }, { name := "threshold", type := .int, accessFlags := 0, slot := 6, constantValue := 0 }, { name := "loadFactor", type := .float, accessFlags := 16, slot := 7, constantValue := 0 }]
  methods := #[k7m0]
  instanceTypes := #[(.object "java/util/Set"), (.object "java/util/Collection"), (.array (.object "java/util/HashMap$Node")), (.object "java/util/Set"), .int, .int, .int, .float]
  staticTypes := #[.long, .int, .int, .float, .int, .int, .int]
  resolved := Array.replicate 629 none
  statics := none }

def pool8 : Array CpInfo := pool [(8, .class_ 10), (1, u "java/lang/Iterable"), (24, .class_ 36), (0, u "java/lang/Object")] 25

/-- java/lang/Iterable -/
def k8 : Class := { plain "java/lang/Iterable" (some 0) with
  accessFlags := 1537
  interfaces := #[]
  cf := some (fileOf pool8 8 #[] #[] 1537 35 #[] #[])
  fields := #[]
  methods := #[]
  instanceTypes := #[]
  staticTypes := #[]
  resolved := Array.replicate 62 none
  statics := none }

def pool9 : Array CpInfo := pool [(10, .class_ 12), (1, u "java/util/Collection"), (47, .class_ 61), (0, u "java/lang/Object"), (0, .class_ 63), (0, u "java/lang/Iterable")] 51

/-- java/util/Collection -/
def k9 : Class := { plain "java/util/Collection" (some 0) with
  accessFlags := 1537
  interfaces := #[8]
  cf := some (fileOf pool9 10 #[] #[] 1537 60 #[62] #[])
  fields := #[]
  methods := #[]
  instanceTypes := #[]
  staticTypes := #[]
  resolved := Array.replicate 115 none
  statics := none }

def pool10 : Array CpInfo := pool [(1, .methodref 2 3), (0, .class_ 4), (0, .nameAndType 5 6), (0, u "java/lang/Object"), (0, u "<init>"), (0, u "()V"), (1, .class_ 10), (1, u "java/util/AbstractCollection"), (66, .class_ 78), (0, u "java/util/Collection")] 81

def k10c0 : Code := { maxStack := 1, maxLocals := 1, code := jdk_22_method_1_code, exceptionTable := #[], attributes := #[] }
def k10m0 : Method := { name := "<init>", desc := "()V", sig := { parameters := [], returnType := none }, accessFlags := 4, code := some k10c0 }
/-- java/util/AbstractCollection -/
def k10 : Class := { plain "java/util/AbstractCollection" (some 0) with
  accessFlags := 1057
  interfaces := #[9]
  cf := some (fileOf pool10 8 #[] #[{ accessFlags := 4, nameIndex := 5, descriptorIndex := 6, attributes := #[] }] 1057 2 #[77] #[])
  fields := #[]
  methods := #[k10m0]
  instanceTypes := #[]
  staticTypes := #[]
  resolved := Array.replicate 160 none
  statics := none }

def pool11 : Array CpInfo := pool [(8, .class_ 10), (1, u "java/util/SequencedCollection"), (15, .class_ 27), (0, u "java/lang/Object"), (0, .class_ 29), (0, u "java/util/Collection")] 27

/-- java/util/SequencedCollection -/
def k11 : Class := { plain "java/util/SequencedCollection" (some 0) with
  accessFlags := 1537
  interfaces := #[9]
  cf := some (fileOf pool11 8 #[] #[] 1537 26 #[28] #[])
  fields := #[]
  methods := #[]
  instanceTypes := #[]
  staticTypes := #[]
  resolved := Array.replicate 57 none
  statics := none }

def pool12 : Array CpInfo := pool [(8, .class_ 10), (1, u "java/util/List"), (92, .class_ 104), (0, u "java/lang/Object"), (15, .class_ 121), (0, u "java/util/SequencedCollection")] 129

/-- java/util/List -/
def k12 : Class := { plain "java/util/List" (some 0) with
  accessFlags := 1537
  interfaces := #[11]
  cf := some (fileOf pool12 8 #[] #[] 1537 103 #[120] #[])
  fields := #[]
  methods := #[]
  instanceTypes := #[]
  staticTypes := #[]
  resolved := Array.replicate 251 none
  statics := none }

def pool13 : Array CpInfo := pool [(1, .methodref 2 3), (0, .class_ 4), (0, .nameAndType 5 6), (0, u "java/util/AbstractCollection"), (0, u "<init>"), (0, u "()V"), (0, .fieldref 8 9), (0, .class_ 10), (0, .nameAndType 11 12), (0, u "java/util/AbstractList"), (0, u "modCount"), (0, u "I"), (64, .class_ 78), (0, u "java/util/AbstractList$Itr"), (3, .class_ 83), (0, u "java/util/AbstractList$ListItr"), (9, .class_ 94), (0, u "java/util/AbstractList$RandomAccessSubList"), (3, .class_ 99), (0, u "java/util/AbstractList$SubList"), (33, .class_ 134), (0, u "java/util/List"), (73, .class_ 209), (0, u "java/util/AbstractList$SubList$1"), (0, .class_ 211), (0, u "java/util/AbstractList$RandomAccessSpliterator")] 6

def k13c0 : Code := { maxStack := 2, maxLocals := 1, code := jdk_39_method_1_code, exceptionTable := #[], attributes := #[] }
def k13m0 : Method := { name := "<init>", desc := "()V", sig := { parameters := [], returnType := none }, accessFlags := 4, code := some k13c0 }
/-- java/util/AbstractList -/
def k13 : Class := { plain "java/util/AbstractList" (some 10) with
  accessFlags := 1057
  interfaces := #[12]
  cf := some (fileOf pool13 8 #[.nestMembers #[93, 98, 208, 210, 82, 77]] #[{ accessFlags := 4, nameIndex := 5, descriptorIndex := 6, attributes := #[] }] 1057 2 #[133] #[{ accessFlags := 132, nameIndex := 11, descriptorIndex := 12, attributes := #[] }])
  fields := #[{ name := "modCount", type := .int, accessFlags := 132, slot := 0, constantValue := 0 }]
  methods := #[k13m0]
  instanceTypes := #[.int]
  staticTypes := #[]
  resolved := Array.replicate 218 none
  statics := none }

def pool14 : Array CpInfo := pool [(1, .class_ 2), (0, u "java/util/RandomAccess"), (0, .class_ 4), (0, u "java/lang/Object")] 2

/-- java/util/RandomAccess -/
def k14 : Class := { plain "java/util/RandomAccess" (some 0) with
  accessFlags := 1537
  interfaces := #[]
  cf := some (fileOf pool14 1 #[] #[] 1537 3 #[] #[])
  fields := #[]
  methods := #[]
  instanceTypes := #[]
  staticTypes := #[]
  resolved := Array.replicate 7 none
  statics := none }

def pool15 : Array CpInfo := pool [(1, .methodref 2 3), (0, .class_ 4), (0, .nameAndType 5 6), (0, u "java/util/AbstractList"), (0, u "<init>"), (0, u "()V"), (2, .fieldref 10 11), (0, .class_ 12), (0, .nameAndType 13 14), (0, u "java/util/ArrayList"), (0, u "elementData"), (0, u "[Ljava/lang/Object;"), (2, u "EMPTY_ELEMENTDATA"), (21, .fieldref 10 40), (0, .nameAndType 41 14), (0, u "DEFAULTCAPACITY_EMPTY_ELEMENTDATA"), (8, u "size"), (0, u "I"), (96, .class_ 149), (0, u "java/util/List"), (112, .class_ 263), (0, u "java/util/ArrayList$ListItr"), (3, .class_ 268), (0, u "java/util/ArrayList$Itr"), (7, .class_ 277), (0, u "java/util/ArrayList$SubList"), (12, .class_ 291), (0, u "java/util/ArrayList$ArrayListSpliterator"), (37, .class_ 330), (0, u "java/util/RandomAccess"), (0, .class_ 332), (0, u "java/lang/Cloneable"), (0, .class_ 334), (0, u "java/io/Serializable"), (0, u "serialVersionUID"), (0, u "J"), (3, u "DEFAULT_CAPACITY"), (159, .class_ 501), (0, u "java/util/ArrayList$SubList$2"), (0, .class_ 503), (0, u "java/util/ArrayList$SubList$1")] 5

def k15c0 : Code := { maxStack := 2, maxLocals := 1, code := jdk_38_method_2_code, exceptionTable := #[], attributes := #[] }
def k15m0 : Method := { name := "<init>", desc := "()V", sig := { parameters := [], returnType := none }, accessFlags := 1, code := some k15c0 }
/-- java/util/ArrayList -/
def k15 : Class := { plain "java/util/ArrayList" (some 13) with
  accessFlags := 33
  interfaces := #[12, 14, 5, 6]
  cf := some (fileOf pool15 10 #[.nestMembers #[290, 276, 500, 502, 262, 267]] #[{ accessFlags := 1, nameIndex := 5, descriptorIndex := 6, attributes := #[] }] 33 2 #[148, 329, 331, 333] #[{ accessFlags := 26, nameIndex := 335, descriptorIndex := 336, attributes := #[] }, { accessFlags := 26, nameIndex := 340, descriptorIndex := 51, attributes := #[] }, { accessFlags := 26, nameIndex := 17, descriptorIndex := 14, attributes := #[] }, { accessFlags := 26, nameIndex := 41, descriptorIndex := 14, attributes := #[] }, { accessFlags := 128, nameIndex := 13, descriptorIndex := 14, attributes := #[] }, { accessFlags := 2, nameIndex := 50, descriptorIndex := 51, attributes := #[] }])
  fields := #[{ name := "serialVersionUID", type := .long, accessFlags := 26, slot := 0, constantValue := 0 }, { name := "DEFAULT_CAPACITY", type := .int, accessFlags := 26, slot := 1, constantValue := 0 }, { name := "EMPTY_ELEMENTDATA", type := (.array (.object "java/lang/Object")), accessFlags := 26, slot := 2, constantValue := 0 }, { name := "DEFAULTCAPACITY_EMPTY_ELEMENTDATA", type := (.array (.object "java/lang/Object")), accessFlags := 26, slot := 3, constantValue := 0 }, { name := "elementData", type := (.array (.object "java/lang/Object")), accessFlags := 128, slot := 1, constantValue := 0 }, { name := "size", type := .int, accessFlags := 2, slot := 2, constantValue := 0 }]
  methods := #[k15m0]
  instanceTypes := #[.int, (.array (.object "java/lang/Object")), .int]
  staticTypes := #[.long, .int, (.array (.object "java/lang/Object")), (.array (.object "java/lang/Object"))]
  resolved := Array.replicate 509 none
  statics := some 0 }

def pool16 : Array CpInfo := pool [(2, .class_ 4), (1, u "java/lang/Object"), (0, u "<init>"), (0, u "()V"), (1, .class_ 10), (1, u "java/lang/System"), (0, u "allowSecurityManager"), (0, u "I"), (16, u "cons"), (0, u "Ljava/io/Console;"), (77, .class_ 110), (1, u "java/lang/System$CallersHolder"), (43, u "initialErrStream"), (0, u "Ljava/io/PrintStream;"), (19, u "security"), (0, u "Ljava/lang/SecurityManager;"), (31, .class_ 209), (0, u "java/lang/System$1"), (7, u "props"), (0, u "Ljava/util/Properties;"), (2, u "lineSeparator"), (0, u "Ljava/lang/String;"), (96, .class_ 321), (1, u "java/lang/System$LoggerFinder"), (5, .class_ 328), (0, u "java/lang/System$Logger"), (67, u "err"), (2, u "out"), (91, u "notSupportedJnuEncoding"), (15, u "in"), (17, u "initialIn"), (0, u "Ljava/io/InputStream;"), (35, u "bootLayer"), (0, u "Ljava/lang/ModuleLayer;"), (99, .class_ 664), (0, u "java/lang/System$2"), (9, u "NEVER"), (2, u "MAYBE"), (49, u "arraycopy"), (0, u "(Ljava/lang/Object;ILjava/lang/Object;II)V"), (72, .class_ 802), (0, u "java/lang/System$Logger$Level")] 31

def k16m0 : Method := { name := "<init>", desc := "()V", sig := { parameters := [], returnType := none }, accessFlags := 2, code := none }
def k16m1 : Method := { name := "arraycopy", desc := "(Ljava/lang/Object;ILjava/lang/Object;II)V", sig := { parameters := [(.object "java/lang/Object"), .int, (.object "java/lang/Object"), .int, .int], returnType := none }, accessFlags := 265, code := none }
/-- java/lang/System -/
def k16 : Class := { plain "java/lang/System" (some 0) with
  accessFlags := 49
  interfaces := #[]
  cf := some (fileOf pool16 8 #[.nestMembers #[319, 327, 801, 108, 663, 208]] #[{ accessFlags := 2, nameIndex := 5, descriptorIndex := 6, attributes := #[] }, { accessFlags := 265, nameIndex := 727, descriptorIndex := 728, attributes := #[] }] 49 2 #[] #[{ accessFlags := 25, nameIndex := 507, descriptorIndex := 526, attributes := #[] }, { accessFlags := 25, nameIndex := 399, descriptorIndex := 155, attributes := #[] }, { accessFlags := 25, nameIndex := 396, descriptorIndex := 155, attributes := #[] }, { accessFlags := 10, nameIndex := 525, descriptorIndex := 526, attributes := #[] }, { accessFlags := 26, nameIndex := 674, descriptorIndex := 12, attributes := #[] }, { accessFlags := 26, nameIndex := 677, descriptorIndex := 12, attributes := #[] }, { accessFlags := 10, nameIndex := 11, descriptorIndex := 12, attributes := #[] }, { accessFlags := 74, nameIndex := 175, descriptorIndex := 176, attributes := #[] }, { accessFlags := 10, nameIndex := 491, descriptorIndex := 222, attributes := #[] }, { accessFlags := 74, nameIndex := 29, descriptorIndex := 30, attributes := #[] }, { accessFlags := 74, nameIndex := 154, descriptorIndex := 155, attributes := #[] }, { accessFlags := 10, nameIndex := 217, descriptorIndex := 218, attributes := #[] }, { accessFlags := 10, nameIndex := 221, descriptorIndex := 222, attributes := #[] }, { accessFlags := 8, nameIndex := 562, descriptorIndex := 563, attributes := #[] }])
  fields := #[{ name := "in", type := (.object "java/io/InputStream"), accessFlags := 25, slot := 0, constantValue := 0 }, { name := "out", type := (.object "java/io/PrintStream"), accessFlags := 25, slot := 1, constantValue := 0 }, { name := "err", type := (.object "java/io/PrintStream"), accessFlags := 25, slot := 2, constantValue := 0 }, { name := "initialIn", type := (.object "java/io/InputStream"), accessFlags := 10, slot := 3, constantValue := 0 }, { name := "NEVER", type := .int, accessFlags := 26, slot := 4, constantValue := 0 }, { name := "MAYBE", type := .int, accessFlags := 26, slot := 5, constantValue := 0 }, { name := "allowSecurityManager", type := .int, accessFlags := 10, slot := 6, constantValue := 0 }, { name := "security", type := (.object "java/lang/SecurityManager"), accessFlags := 74, slot := 7, constantValue := 0 }, { name := "notSupportedJnuEncoding", type := (.object "java/lang/String"), accessFlags := 10, slot := 8, constantValue := 0 }, { name := "cons", type := (.object "java/io/Console"), accessFlags := 74, slot := 9, constantValue := 0 }, { name := "initialErrStream", type := (.object "java/io/PrintStream"), accessFlags := 74, slot := 10, constantValue := 0 }, { name := "props", type := (.object "java/util/Properties"), accessFlags := 10, slot := 11, constantValue := 0 }, { name := "lineSeparator", type := (.object "java/lang/String"), accessFlags := 10, slot := 12, constantValue := 0 }, { name := "bootLayer", type := (.object "java/lang/ModuleLayer"), accessFlags := 8, slot := 13, constantValue := 0 }]
  methods := #[k16m0, k16m1]
  instanceTypes := #[]
  staticTypes := #[(.object "java/io/InputStream"), (.object "java/io/PrintStream"), (.object "java/io/PrintStream"), (.object "java/io/InputStream"), .int, .int, .int, (.object "java/lang/SecurityManager"), (.object "java/lang/String"), (.object "java/io/Console"), (.object "java/io/PrintStream"), (.object "java/util/Properties"), (.object "java/lang/String"), (.object "java/lang/ModuleLayer")]
  resolved := Array.replicate 834 none
  statics := none }

/-- the primitive byte -/
def k17 : Class := { plain "byte" none with kind := .primitive 'B', accessFlags := 0x411 }
/-- [B -/
def k18 : Class := { plain "[B" (some 0) with kind := .array 17 .byte, interfaces := #[5, 6], accessFlags := 1041 }

/-- the primitive int -/
def k19 : Class := { plain "int" none with kind := .primitive 'I', accessFlags := 0x411 }
/-- [I -/
def k20 : Class := { plain "[I" (some 0) with kind := .array 19 .int, interfaces := #[5, 6], accessFlags := 1041 }

/-- [Ljava/lang/Object; -/
def k21 : Class := { plain "[Ljava/lang/Object;" (some 0) with kind := .array 0 (.object "java/lang/Object"), interfaces := #[5, 6], accessFlags := 1041 }

def heap : Heap := #[{ cls := 15, slots := #[.long 0, .int 0, .ref 1, .ref 2], vm := .statics 15 },
  { cls := 21, slots := #[], vm := .none },
  { cls := 21, slots := #[], vm := .none }]
def classes : Array Class := #[k0, k1, k2, k3, k4, k5, k6, k7, k8, k9, k10, k11, k12, k13, k14, k15, k16, k17, k18, k19, k20, k21]
def interned : List (Array UInt16 × Addr) := []
def slotsUsed : Nat := 4
def theMethod : MethodId := ⟨1, 1⟩
def args0 : Array Value := #[.int 5, .long 6, .long 7, .long 8, .int 9, .int 10]
def aboutOver (below : List Frame) : State where
  vm := { classes := classes, interned := interned.toArray }
  heap := heap
  slotsUsed := slotsUsed
  threads := #[{ frames := .invoking theMethod args0 :: below }]
def below0 : List Frame := [.native { method := ⟨0, 0⟩, args := #[] }]
def about1 : State := aboutOver below0
def p0 : Program := .bare "" "" ""
def e0 : Env := launch0.env 0 0 0
theorem w_frames : about1.frames = Frame.invoking theMethod args0 :: below0 := rfl
set_option maxRecDepth 65536 in
theorem w_args : argsFit about1.vm theMethod args0 = true := by decide +kernel
set_option maxRecDepth 65536 in
theorem w_heap : heapFits about1 = true := by decide +kernel
set_option maxRecDepth 65536 in
theorem w_runnable : about1.curStatus? = some .runnable := by decide +kernel
set_option maxRecDepth 65536 in
theorem w_alone : about1.alone = true := by decide +kernel
set_option maxRecDepth 65536 in
theorem w_named : about1.methodNamed? x = some theMethod := by decide +kernel
set_option maxRecDepth 65536 in
theorem w_hears : about1.hears theMethod below0 = true := by decide +kernel
set_option maxRecDepth 65536 in
theorem w_ripe : about1.ripe theMethod args0 below0 = true := by decide +kernel
theorem w_running : about1.status = .running := rfl
set_option maxRecDepth 65536 in
theorem w_room : about1.hasRoom e0.platform room_1 = true :=
  launch0.hasRoom_least _ room_1 (by decide +kernel) (by decide +kernel) (by decide +kernel) (by decide +kernel) (by decide +kernel) (by decide +kernel)
theorem allAtoms_all (ts : List Jvm.Cond) (a : Array Jvm.Value) (st : Jvm.State) : (allAtoms ts).before a st = ts.all (fun c => c.before a st) := by
  induction ts with
  | nil => rfl
  | cons c t ih =>
    show (Jvm.Cond.and c (allAtoms t)).before a st = _
    rw [Jvm.Cond.before_and, ih, List.all_cons]
def words1 : List Jvm.Cond := Jvm.Cond.code x code maxLocals ret :: tables_1
/-- a 'code' word, met by the world's own term for the bytes: nothing is compared byte by byte -/
theorem code_word {y : MethodName} {bytes : ByteArray} {mx : Nat} {rt : Option FieldType} {a : Array Value} {s : State} {m : MethodId} {meth : Method} {c : Code} (h1 : s.methodNamed? y = some m) (h2 : s.vm.method? m = some meth) (h3 : meth.code = some c) (h4 : c.code = bytes)
    (h5 : (c.maxLocals == mx && c.exceptionTable.isEmpty && decide (c.maxStack ≤ mostOperands) && decide (meth.sig.returnType = rt) && !meth.locks && decide (parseMethodDescriptor y.desc = some meth.sig)) = true) : (Jvm.Cond.code y bytes mx rt).before a s = true := by
  simp only [Bool.and_eq_true, beq_iff_eq, Bool.not_eq_true', decide_eq_true_eq] at h5
  obtain ⟨⟨⟨⟨⟨g1, g2⟩, g3⟩, g4⟩, g5⟩, g6⟩ := h5
  simp [Cond.before, Cond.holds, Cond.value, h1, h2, h3, h4, g1, g2, g3, g4, g5, g6]
def isCode : Jvm.Cond → Bool
  | .code _ _ _ _ => true
  | _ => false
theorem all_split {L : List Jvm.Cond} {P : Jvm.Cond → Bool} (h1 : L.all (fun c => isCode c || P c) = true) (h2 : ∀ c ∈ L.filter isCode, P c = true) : L.all P = true := by
  refine List.all_eq_true.mpr fun c hc => ?_
  have h := List.all_eq_true.mp h1 c hc
  rcases Bool.eq_false_or_eq_true (isCode c) with hi | hi
  · exact h2 c (List.mem_filter.mpr ⟨hc, hi⟩)
  · simpa [hi] using h
set_option maxRecDepth 65536 in
theorem w_c0 : (Jvm.Cond.code x code maxLocals ret).before args0 about1 = true := code_word (m := ⟨1, 1⟩) (meth := k1m1) (c := k1c1) (by decide +kernel) rfl rfl rfl (by decide +kernel)
set_option maxRecDepth 65536 in
theorem w_c1 : (Jvm.Cond.code ({ cls := "com/example/orbweaver/orbweaver/engine/Buffers", name := "<init>", desc := "(I)V" } : Jvm.MethodName) prog_13_method_1_code (2 : Nat) (Option.none : Option Jvm.ClassFile.FieldType)).before args0 about1 = true := code_word (m := ⟨2, 0⟩) (meth := k2m0) (c := k2c0) (by decide +kernel) rfl rfl rfl (by decide +kernel)
set_option maxRecDepth 65536 in
theorem w_c2 : (Jvm.Cond.code ({ cls := "java/lang/Object", name := "<init>", desc := "()V" } : Jvm.MethodName) object_method_1_code (1 : Nat) (Option.none : Option Jvm.ClassFile.FieldType)).before args0 about1 = true := code_word (m := ⟨0, 0⟩) (meth := k0m0) (c := k0c0) (by decide +kernel) rfl rfl rfl (by decide +kernel)
set_option maxRecDepth 65536 in
theorem w_c3 : (Jvm.Cond.code ({ cls := "java/util/HashMap", name := "<init>", desc := "()V" } : Jvm.MethodName) jdk_69_method_7_code (1 : Nat) (Option.none : Option Jvm.ClassFile.FieldType)).before args0 about1 = true := code_word (m := ⟨7, 0⟩) (meth := k7m0) (c := k7c0) (by decide +kernel) rfl rfl rfl (by decide +kernel)
set_option maxRecDepth 65536 in
theorem w_c4 : (Jvm.Cond.code ({ cls := "java/util/AbstractMap", name := "<init>", desc := "()V" } : Jvm.MethodName) jdk_71_method_1_code (1 : Nat) (Option.none : Option Jvm.ClassFile.FieldType)).before args0 about1 = true := code_word (m := ⟨4, 0⟩) (meth := k4m0) (c := k4c0) (by decide +kernel) rfl rfl rfl (by decide +kernel)
set_option maxRecDepth 65536 in
theorem w_c5 : (Jvm.Cond.code ({ cls := "java/util/ArrayList", name := "<init>", desc := "()V" } : Jvm.MethodName) jdk_38_method_2_code (1 : Nat) (Option.none : Option Jvm.ClassFile.FieldType)).before args0 about1 = true := code_word (m := ⟨15, 0⟩) (meth := k15m0) (c := k15c0) (by decide +kernel) rfl rfl rfl (by decide +kernel)
set_option maxRecDepth 65536 in
theorem w_c6 : (Jvm.Cond.code ({ cls := "java/util/AbstractList", name := "<init>", desc := "()V" } : Jvm.MethodName) jdk_39_method_1_code (1 : Nat) (Option.none : Option Jvm.ClassFile.FieldType)).before args0 about1 = true := code_word (m := ⟨13, 0⟩) (meth := k13m0) (c := k13c0) (by decide +kernel) rfl rfl rfl (by decide +kernel)
set_option maxRecDepth 65536 in
theorem w_c7 : (Jvm.Cond.code ({ cls := "java/util/AbstractCollection", name := "<init>", desc := "()V" } : Jvm.MethodName) jdk_22_method_1_code (1 : Nat) (Option.none : Option Jvm.ClassFile.FieldType)).before args0 about1 = true := code_word (m := ⟨10, 0⟩) (meth := k10m0) (c := k10c0) (by decide +kernel) rfl rfl rfl (by decide +kernel)
set_option maxRecDepth 65536 in
theorem w_c8 : (Jvm.Cond.code ({ cls := "com/example/orbweaver/orbweaver/engine/Buffers", name := "place", desc := "(I)V" } : Jvm.MethodName) prog_13_method_6_code (2 : Nat) (Option.none : Option Jvm.ClassFile.FieldType)).before args0 about1 = true := code_word (m := ⟨2, 1⟩) (meth := k2m1) (c := k2c1) (by decide +kernel) rfl rfl rfl (by decide +kernel)
set_option maxRecDepth 65536 in
theorem w_c9 : (Jvm.Cond.code ({ cls := "com/example/orbweaver/orbweaver/engine/Buffers", name := "take", desc := "([II)[I" } : Jvm.MethodName) prog_13_method_11_code (4 : Nat) (Option.some (Jvm.ClassFile.FieldType.array Jvm.ClassFile.FieldType.int))).before args0 about1 = true := code_word (m := ⟨2, 2⟩) (meth := k2m2) (c := k2c2) (by decide +kernel) rfl rfl rfl (by decide +kernel)
set_option maxRecDepth 65536 in
theorem w_c10 : (Jvm.Cond.code ({ cls := "com/example/orbweaver/orbweaver/engine/BuffersTakePinLaw", name := "ok", desc := "([I[IIII)Z" } : Jvm.MethodName) method_3_code (6 : Nat) (Option.some Jvm.ClassFile.FieldType.boolean)).before args0 about1 = true := code_word (m := ⟨1, 2⟩) (meth := k1m2) (c := k1c2) (by decide +kernel) rfl rfl rfl (by decide +kernel)
def codes1 : List Jvm.Cond := [Jvm.Cond.code x code maxLocals ret, Jvm.Cond.code ({ cls := "com/example/orbweaver/orbweaver/engine/Buffers", name := "<init>", desc := "(I)V" } : Jvm.MethodName) prog_13_method_1_code (2 : Nat) (Option.none : Option Jvm.ClassFile.FieldType), Jvm.Cond.code ({ cls := "java/lang/Object", name := "<init>", desc := "()V" } : Jvm.MethodName) object_method_1_code (1 : Nat) (Option.none : Option Jvm.ClassFile.FieldType), Jvm.Cond.code ({ cls := "java/util/HashMap", name := "<init>", desc := "()V" } : Jvm.MethodName) jdk_69_method_7_code (1 : Nat) (Option.none : Option Jvm.ClassFile.FieldType), Jvm.Cond.code ({ cls := "java/util/AbstractMap", name := "<init>", desc := "()V" } : Jvm.MethodName) jdk_71_method_1_code (1 : Nat) (Option.none : Option Jvm.ClassFile.FieldType), Jvm.Cond.code ({ cls := "java/util/ArrayList", name := "<init>", desc := "()V" } : Jvm.MethodName) jdk_38_method_2_code (1 : Nat) (Option.none : Option Jvm.ClassFile.FieldType), Jvm.Cond.code ({ cls := "java/util/AbstractList", name := "<init>", desc := "()V" } : Jvm.MethodName) jdk_39_method_1_code (1 : Nat) (Option.none : Option Jvm.ClassFile.FieldType), Jvm.Cond.code ({ cls := "java/util/AbstractCollection", name := "<init>", desc := "()V" } : Jvm.MethodName) jdk_22_method_1_code (1 : Nat) (Option.none : Option Jvm.ClassFile.FieldType), Jvm.Cond.code ({ cls := "com/example/orbweaver/orbweaver/engine/Buffers", name := "place", desc := "(I)V" } : Jvm.MethodName) prog_13_method_6_code (2 : Nat) (Option.none : Option Jvm.ClassFile.FieldType), Jvm.Cond.code ({ cls := "com/example/orbweaver/orbweaver/engine/Buffers", name := "take", desc := "([II)[I" } : Jvm.MethodName) prog_13_method_11_code (4 : Nat) (Option.some (Jvm.ClassFile.FieldType.array Jvm.ClassFile.FieldType.int)), Jvm.Cond.code ({ cls := "com/example/orbweaver/orbweaver/engine/BuffersTakePinLaw", name := "ok", desc := "([I[IIII)Z" } : Jvm.MethodName) method_3_code (6 : Nat) (Option.some Jvm.ClassFile.FieldType.boolean)]
set_option maxRecDepth 65536 in
theorem codes_eq : words1.filter isCode = codes1 := rfl
theorem w_codes : ∀ c ∈ words1.filter isCode, c.before args0 about1 = true := by
  rw [codes_eq]
  intro c hc
  simp only [codes1, List.mem_cons, List.not_mem_nil, or_false] at hc
  rcases hc with rfl | rfl | rfl | rfl | rfl | rfl | rfl | rfl | rfl | rfl | rfl
  · exact w_c0
  · exact w_c1
  · exact w_c2
  · exact w_c3
  · exact w_c4
  · exact w_c5
  · exact w_c6
  · exact w_c7
  · exact w_c8
  · exact w_c9
  · exact w_c10
set_option maxRecDepth 65536 in
theorem w_t1 : (words1.take 24).all (fun c => isCode c || c.before args0 about1) = true := by decide +kernel
set_option maxRecDepth 65536 in
theorem w_t2 : ((words1.drop 24).take 24).all (fun c => isCode c || c.before args0 about1) = true := by decide +kernel
set_option maxRecDepth 65536 in
theorem w_t3 : (((words1.drop 24).drop 24).take 24).all (fun c => isCode c || c.before args0 about1) = true := by decide +kernel
set_option maxRecDepth 65536 in
theorem w_t4 : (((words1.drop 24).drop 24).drop 24).all (fun c => isCode c || c.before args0 about1) = true := by decide +kernel
theorem w_tables : (allAtoms (Jvm.Cond.code x code maxLocals ret :: tables_1)).before args0 about1 = true := by
  rw [allAtoms_all]
  show words1.all (fun c => c.before args0 about1) = true
  refine all_split ?_ w_codes
  rw [← List.take_append_drop 24 words1, List.all_append, w_t1, ← List.take_append_drop 24 (words1.drop 24), List.all_append, w_t2, ← List.take_append_drop 24 ((words1.drop 24).drop 24), List.all_append, w_t3, w_t4]
  rfl
set_option maxRecDepth 65536 in
theorem w_rest : rest_1_c.before args0 about1 = true := by decide +kernel
set_option maxRecDepth 65536 in
theorem w_case : (Jvm.Cond.and given_1 narrow_1).before args0 about1 = true := by decide +kernel
theorem w_applies : (headSpec (Jvm.Cond.code x code maxLocals ret :: tables_1) room_1).applies x e0.platform about1 = true :=
  (Spec.applies_iff w_frames).mpr ⟨w_running, w_runnable, w_alone, w_named, w_hears, w_ripe, w_room, w_tables⟩
theorem atStart : AtStart classFile x code maxLocals ret World_1 tables_1 room_1 Calls_1 rest_1 Pre_1 launch0 p0 e0 about1 theMethod args0 below0 :=
  ⟨lists_1, trivial, launch0.admits_env _ _ _, launch0.least_env, fairChoices_fair.cas, fairChoices_fair.clock, w_frames, w_args, w_heap, w_applies, trivial, w_rest, w_case⟩
end start1
theorem witness_1 : WitnessClaimed_1 := ⟨start1.p0, start1.e0, start1.about1, start1.theMethod, start1.args0, start1.below0, start1.atStart⟩
end Jvm.Pilot.@@N@@
