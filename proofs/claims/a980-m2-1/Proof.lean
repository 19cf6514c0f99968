import JvmDerived
import JvmDerived.Pilot.@@N@@Statement
import JvmDerived.Pilot.@@N@@Code
set_option linter.unusedVariables false
set_option linter.unusedSimpArgs false
namespace Jvm.RoadKit
open Sem ClassFile Op Lib Jvm.Stand Jvm.Free Jvm.LawKit
section New
variable {p : Program} {l : Launch} {e : Env} {R : Room} {s : State} {m : MethodId} {args : Array Value} {below : List Frame} {meth : Method} {c : Code} {T : State} {locs : List Loc} {cells slots : Nat}
theorem retI (X : Stand p l e R s m args below meth c T locs cells slots) (hx : p.tables.exec = Jvm.exec) {pc : Nat} {Ls : Array Slot} {z : Int32} {rest : List Value} (hret : meth.sig.returnType = some .int) (hd : decode c.code pc = .ok (.ireturn, 1)) {fs : List Frame}
    (hl : ∀ (f : JFrame) (acts : List Action), f.method = m → f.locked = none → f.entered = [] → (doReturn e (T.setTop f) acts (some (.int z))).1 = T.setFrames fs) : Steps p.tables e below (T.setTop (mkF m pc Ls (.int z :: rest))) (T.setFrames fs) := by
  have hm' : T.vm.method? m = some meth := X.method'
  have hn : narrow .int (.int z) = .int z := rfl
  show Steps p.tables e below (T.setTop { method := m, pc := pc, locals := Ls, stack := _ :: rest, locked := none }) _
  jvm_step X.here [X.here.top, hx, hd, hm', hret, hn]
  first | (intro acts; rw [hl _ acts rfl rfl rfl]) | rw [hl _ _ rfl rfl rfl]
  exact Steps.refl _
end New
end Jvm.RoadKit
namespace Jvm.Pilot.@@N@@
open Jvm Jvm.ClassFile Sem Op Lib Jvm.Free Jvm.Stand Jvm.LawKit Jvm.RoadKit Bundle Jvm.Pilot.@@N@@.Jvm.D
def own_at (q : Int64) (i : Int32) : Int32 := (((q.toUInt64 >>> (((8 : Int32) * i) &&& 0x3f).toInt64.toUInt64).toInt64).toInt32).toInt8.toInt32
theorem own_narb (x : Int32) : nar .byte (x.toInt8.toInt32) = x.toInt8.toInt32 := by simp [nar]
theorem own_nara (q : Int64) (i : Int32) : nar .byte (own_at q i) = own_at q i := own_narb _
def own_sum (bs : List Int32) (s : Int32) : Int32 := bs.foldl (fun s b => s + (b &&& (255 : Int32))) s
def own_sg (bs : List Int32) (s : Int32) : Int32 := bs.foldl (fun s b => s + b) s
def own_cs (bs : List Int32) : Int32 := own_sum bs (0 : Int32) &&& (255 : Int32)
theorem own_mod (bs : List Int32) : ∀ s t : Int32, (s.toInt - t.toInt) % 256 = 0 → ((own_sum bs s).toInt - (own_sg bs t).toInt) % 256 = 0 := by
  induction bs with
  | nil => intro s t h; exact h
  | cons b bs ih =>
    intro s t h
    refine ih (s + (b &&& (255 : Int32))) (t + b) ?_
    have e := c_mask b 255 8 (by decide) (by decide)
    have q1 := c_iadd s (b &&& (255 : Int32))
    have q2 := c_iadd t b
    omega
theorem own_key (bs : List Int32) : own_cs bs = own_sg bs (0 : Int32) &&& (255 : Int32) := by
  have h := own_mod bs 0 0 (by decide)
  apply Int32.toInt_inj.mp
  unfold own_cs
  rw [c_mask _ 255 8 (by decide) (by decide), c_mask _ 255 8 (by decide) (by decide)]
  omega
theorem own_len (p : Int32) : ((p &&& (2147483647 : Int32)) % (9 : Int32)) = (0 : Int32) ∨ ((p &&& (2147483647 : Int32)) % (9 : Int32)) = (1 : Int32) ∨ ((p &&& (2147483647 : Int32)) % (9 : Int32)) = (2 : Int32) ∨ ((p &&& (2147483647 : Int32)) % (9 : Int32)) = (3 : Int32) ∨ ((p &&& (2147483647 : Int32)) % (9 : Int32)) = (4 : Int32) ∨ ((p &&& (2147483647 : Int32)) % (9 : Int32)) = (5 : Int32) ∨ ((p &&& (2147483647 : Int32)) % (9 : Int32)) = (6 : Int32) ∨ ((p &&& (2147483647 : Int32)) % (9 : Int32)) = (7 : Int32) ∨ ((p &&& (2147483647 : Int32)) % (9 : Int32)) = (8 : Int32) := by
  have e := c_mask p 2147483647 31 (by decide) (by decide)
  have q := (c_irem (p &&& (2147483647 : Int32)) 9 9 rfl).1 (by omega)
  simp only [← Int32.toInt_inj]
  generalize ((p &&& (2147483647 : Int32)) % (9 : Int32)).toInt = z at q ⊢
  have t0 : (0 : Int32).toInt = 0 := rfl
  have t1 : (1 : Int32).toInt = 1 := rfl
  have t2 : (2 : Int32).toInt = 2 := rfl
  have t3 : (3 : Int32).toInt = 3 := rfl
  have t4 : (4 : Int32).toInt = 4 := rfl
  have t5 : (5 : Int32).toInt = 5 := rfl
  have t6 : (6 : Int32).toInt = 6 := rfl
  have t7 : (7 : Int32).toInt = 7 := rfl
  have t8 : (8 : Int32).toInt = 8 := rfl
  omega
theorem own_os {a b : Addr} {x y z v : Int32} {o : Slot} (h : One o) : storeLocals #[.val (.ref a), .val (.int x), .val (.ref b), .val (.int y), .val (.int z), o] 5 (.int v) = some #[.val (.ref a), .val (.int x), .val (.ref b), .val (.int y), .val (.int z), .val (.int v)] := by
  rcases h with rfl | ⟨w, rfl, hw⟩
  · rfl
  · cases w <;> first | rfl | (simp [Value.category] at hw)
theorem d2_0 : decode method_2_code 0 = .ok (.lload_n 0, 1) := by decide +kernel
theorem d2_1 : decode method_2_code 1 = .ok (.bipush 8, 2) := by decide +kernel
theorem d2_3 : decode method_2_code 3 = .ok (.iload_n 2, 1) := by decide +kernel
theorem d2_4 : decode method_2_code 4 = .ok (.imul, 1) := by decide +kernel
theorem d2_5 : decode method_2_code 5 = .ok (.lushr, 1) := by decide +kernel
theorem d2_6 : decode method_2_code 6 = .ok (.l2i, 1) := by decide +kernel
theorem d2_7 : decode method_2_code 7 = .ok (.i2b, 1) := by decide +kernel
theorem d2_8 : decode method_2_code 8 = .ok (.ireturn, 1) := by decide +kernel
theorem pn_com_example_assaybus_assaybus_link_FrameChecksumPinLaw : plainName "com/example/assaybus/assaybus/link/FrameChecksumPinLaw" = true := by first | (simp [plainName, overriddenIn]; done) | decide +kernel
theorem ef_own_mat (m : MethodId) (x0 : Int64) (x1 : Int32) : entryFrame m #[(.long x0), (.int x1)] 3 = mkF m 0 #[.val (.long x0), .second, .val (.int x1)] [] := by first | (simp [entryFrame, mkF, argsToLocals, Value.category]; done) | rfl
def Qown_mat (Z : State) (q1 : Int64) (p1 : Int32) (h0 : Heap) (n0 : Nat) (v : Option Value) (h : Heap) (L : List Loc) : Prop := v = some (.int (own_at q1 p1)) ∧ Fr n0 L ∧ h = h0
set_option maxRecDepth 65536 in
set_option maxHeartbeats 40000000 in
theorem own_mat (l : Launch) (Z : State) (a0 : Array Value) (hw : ∀ d ∈ tables_1, d.before a0 Z = true) (ws : List Jvm.Cond) (q1 : Int64) (p1 : Int32) (h0 : Heap) (n0 : Nat) (Z0 : n0 ≤ h0.size) :
    MetFree l (⟨"com/example/assaybus/assaybus/link/FrameChecksumPinLaw", "at", "(JI)B"⟩ : MethodName) (head1 (Jvm.Cond.code (⟨"com/example/assaybus/assaybus/link/FrameChecksumPinLaw", "at", "(JI)B"⟩ : MethodName) method_2_code 3 (some .byte) :: ws) ({ frames := 0, cells := 0, slots := 0, locals := 0 } : Room)) (fun a U => a = #[(.long q1), (.int p1)] ∧ Z.Warmed39 U.vm ∧ U.heap = h0) (fun _ _ _ _ _ => True) (fun _ U o U' => ∃ v L, o = .returned v ∧ Qown_mat Z q1 p1 h0 n0 v U'.heap L ∧ FrameEnd U o U' L ({ frames := 0, cells := 0, slots := 0, locals := 0 } : Room).cells ({ frames := 0, cells := 0, slots := 0, locals := 0 } : Room).slots) := by
  refine MetFree.of_bodySF (plainFor_of_name pn_com_example_assaybus_assaybus_link_FrameChecksumPinLaw) hisR ?_
  intro p e s m args below meth c s₁ Bd hml0 hP hK
  obtain ⟨rfl, hZ, hh⟩ := hP
  have hx := Bd.exec
  have hby := Bd.bytes
  have hml : c.maxLocals = 3 := hml0
  have hown : s.vm.findClass "com/example/assaybus/assaybus/link/FrameChecksumPinLaw" = some m.cls := findClass_of_methodNamed Bd.named
  have hnm := (name_of_methodNamed Bd.named Bd.method).1
  have X0 : Stand p l e ({ frames := 0, cells := 0, slots := 0, locals := 0 } : Room) s m #[(.long q1), (.int p1)] below meth c s₁ [] 0 0 := Stand.of_body Bd
  have e0 : s₁.heap = h0 := by rw [← hh, Bd.state]; rfl
  have N0 := Fr.nil n0
  have pre0 : ∀ t, Steps p.tables e below (s₁.setTop (mkF m 0 #[.val (.long q1), .second, .val (.int p1)] [])) t → Steps p.tables e below (s₁.setTop (entryFrame m #[(.long q1), (.int p1)] 3)) t := fun t k => castTop (ef_own_mat m (q1) (p1)) k
  obtain ⟨fs, hr, hrun, hended, hW, hsame⟩ := X0.leave (v := some (.int (nar .byte (own_at q1 p1)))) (fun h => by rw [Bd.returns] at h; cases h)
  refine ⟨_, _, pre0 _ ?_, hrun, hended, _, _, rfl, ?_, ⟨_, rfl⟩, hW, hsame.mono (by decide) (by decide)⟩
  · show Steps p.tables e below (s₁.setTop (mkF m 0 #[.val (.long q1), .second, .val (.int p1)] [])) _
    refine XS.lloadN X0.here hx rfl (hb hby d2_0) rfl ?_
    show Steps p.tables e below (s₁.setTop (mkF m 1 #[.val (.long q1), .second, .val (.int p1)] [(.long q1)])) _
    refine XS.bipush X0.here hx rfl (hb hby d2_1) ?_
    show Steps p.tables e below (s₁.setTop (mkF m 3 #[.val (.long q1), .second, .val (.int p1)] [(.int (8 : Int32)), (.long q1)])) _
    refine XS.iloadN X0.here hx rfl (hb hby d2_3) rfl ?_
    show Steps p.tables e below (s₁.setTop (mkF m 4 #[.val (.long q1), .second, .val (.int p1)] [(.int p1), (.int (8 : Int32)), (.long q1)])) _
    refine XS.imul X0.here hx rfl (hb hby d2_4) rfl ?_
    show Steps p.tables e below (s₁.setTop (mkF m 5 #[.val (.long q1), .second, .val (.int p1)] [(.int ((8 : Int32) * p1)), (.long q1)])) _
    refine XS.lushr X0.here hx rfl (hb hby d2_5) rfl ?_
    show Steps p.tables e below (s₁.setTop (mkF m 6 #[.val (.long q1), .second, .val (.int p1)] [(.long ((q1.toUInt64 >>> (((8 : Int32) * p1) &&& 0x3f).toInt64.toUInt64).toInt64))])) _
    refine XS.l2i X0.here hx rfl (hb hby d2_6) rfl ?_
    show Steps p.tables e below (s₁.setTop (mkF m 7 #[.val (.long q1), .second, .val (.int p1)] [(.int (((q1.toUInt64 >>> (((8 : Int32) * p1) &&& 0x3f).toInt64.toUInt64).toInt64).toInt32))])) _
    refine XS.i2b X0.here hx rfl (hb hby d2_7) rfl ?_
    show Steps p.tables e below (s₁.setTop (mkF m 8 #[.val (.long q1), .second, .val (.int p1)] [(.int ((((q1.toUInt64 >>> (((8 : Int32) * p1) &&& 0x3f).toInt64.toUInt64).toInt64).toInt32).toInt8.toInt32))])) _
    exact retN X0 hx (t := .byte) Bd.returns (by simp) (hb hby d2_8) hr
  · show Qown_mat Z q1 p1 h0 n0 _ s₁.heap _
    rw [e0]
    exact ⟨by rw [own_nara], N0, rfl⟩
theorem d1_0 : decode prog_28_method_2_code 0 = .ok (.iconst 0, 1) := by decide +kernel
theorem d1_1 : decode prog_28_method_2_code 1 = .ok (.istore_n 1, 1) := by decide +kernel
theorem d1_2 : decode prog_28_method_2_code 2 = .ok (.aload_n 0, 1) := by decide +kernel
theorem d1_3 : decode prog_28_method_2_code 3 = .ok (.astore_n 2, 1) := by decide +kernel
theorem d1_4 : decode prog_28_method_2_code 4 = .ok (.aload_n 2, 1) := by decide +kernel
theorem d1_5 : decode prog_28_method_2_code 5 = .ok (.arraylength, 1) := by decide +kernel
theorem d1_6 : decode prog_28_method_2_code 6 = .ok (.istore_n 3, 1) := by decide +kernel
theorem d1_7 : decode prog_28_method_2_code 7 = .ok (.iconst 0, 1) := by decide +kernel
theorem d1_8 : decode prog_28_method_2_code 8 = .ok (.istore 4, 2) := by decide +kernel
theorem d1_10 : decode prog_28_method_2_code 10 = .ok (.iload 4, 2) := by decide +kernel
theorem d1_12 : decode prog_28_method_2_code 12 = .ok (.iload_n 3, 1) := by decide +kernel
theorem d1_13 : decode prog_28_method_2_code 13 = .ok (.if_icmp .ge 24, 3) := by decide +kernel
theorem d1_16 : decode prog_28_method_2_code 16 = .ok (.aload_n 2, 1) := by decide +kernel
theorem d1_17 : decode prog_28_method_2_code 17 = .ok (.iload 4, 2) := by decide +kernel
theorem d1_19 : decode prog_28_method_2_code 19 = .ok (.baload, 1) := by decide +kernel
theorem d1_20 : decode prog_28_method_2_code 20 = .ok (.istore 5, 2) := by decide +kernel
theorem d1_22 : decode prog_28_method_2_code 22 = .ok (.iload_n 1, 1) := by decide +kernel
theorem d1_23 : decode prog_28_method_2_code 23 = .ok (.iload 5, 2) := by decide +kernel
theorem d1_25 : decode prog_28_method_2_code 25 = .ok (.sipush 255, 3) := by decide +kernel
theorem d1_28 : decode prog_28_method_2_code 28 = .ok (.iand, 1) := by decide +kernel
theorem d1_29 : decode prog_28_method_2_code 29 = .ok (.iadd, 1) := by decide +kernel
theorem d1_30 : decode prog_28_method_2_code 30 = .ok (.istore_n 1, 1) := by decide +kernel
theorem d1_31 : decode prog_28_method_2_code 31 = .ok (.iinc 4 1, 3) := by decide +kernel
theorem d1_34 : decode prog_28_method_2_code 34 = .ok (.goto (-24), 3) := by decide +kernel
theorem d1_37 : decode prog_28_method_2_code 37 = .ok (.iload_n 1, 1) := by decide +kernel
theorem d1_38 : decode prog_28_method_2_code 38 = .ok (.sipush 255, 3) := by decide +kernel
theorem d1_41 : decode prog_28_method_2_code 41 = .ok (.iand, 1) := by decide +kernel
theorem d1_42 : decode prog_28_method_2_code 42 = .ok (.ireturn, 1) := by decide +kernel
theorem pn_com_example_assaybus_assaybus_link_Frame : plainName "com/example/assaybus/assaybus/link/Frame" = true := by first | (simp [plainName, overriddenIn]; done) | decide +kernel
theorem ef_own_sumof (m : MethodId) (x0 : Addr) : entryFrame m #[(.ref x0)] 6 = mkF m 0 #[.val (.ref x0), .unset, .unset, .unset, .unset, .unset] [] := by first | (simp [entryFrame, mkF, argsToLocals, Value.category]; done) | rfl
def Qown_sumof (Z : State) (a1 : Addr) (k1 : ClassId) (z1 : Int32) (bs : List Int32) (h0 : Heap) (n0 : Nat) (v : Option Value) (h : Heap) (L : List Loc) : Prop := v = some (.int (own_cs bs)) ∧ Fr n0 L ∧ h = h0
set_option maxRecDepth 65536 in
set_option maxHeartbeats 40000000 in
theorem own_sumof (l : Launch) (Z : State) (a0 : Array Value) (hw : ∀ d ∈ tables_1, d.before a0 Z = true) (ws : List Jvm.Cond) (a1 : Addr) (k1 : ClassId) (z1 : Int32) (bs : List Int32) (h0 : Heap) (n0 : Nat) (Z0 : n0 ≤ h0.size) (V1 : Arv Z h0 a1 k1 .byte z1 (bs.map Value.int) (.int (0 : Int32))) (hz : z1.toInt = (bs.length : Int)) :
    MetFree l (⟨"com/example/assaybus/assaybus/link/Frame", "checksum", "([B)I"⟩ : MethodName) (head1 (Jvm.Cond.code (⟨"com/example/assaybus/assaybus/link/Frame", "checksum", "([B)I"⟩ : MethodName) prog_28_method_2_code 6 (some .int) :: ws) ({ frames := 0, cells := 0, slots := 0, locals := 0 } : Room)) (fun a U => a = #[(.ref a1)] ∧ Z.Warmed39 U.vm ∧ U.heap = h0) (fun _ _ _ _ _ => True) (fun _ U o U' => ∃ v L, o = .returned v ∧ Qown_sumof Z a1 k1 z1 bs h0 n0 v U'.heap L ∧ FrameEnd U o U' L ({ frames := 0, cells := 0, slots := 0, locals := 0 } : Room).cells ({ frames := 0, cells := 0, slots := 0, locals := 0 } : Room).slots) := by
  refine MetFree.of_bodySF (plainFor_of_name pn_com_example_assaybus_assaybus_link_Frame) hisR ?_
  intro p e s m args below meth c s₁ Bd hml0 hP hK
  obtain ⟨rfl, hZ, hh⟩ := hP
  have hx := Bd.exec
  have hby := Bd.bytes
  have hml : c.maxLocals = 6 := hml0
  have hown : s.vm.findClass "com/example/assaybus/assaybus/link/Frame" = some m.cls := findClass_of_methodNamed Bd.named
  have hnm := (name_of_methodNamed Bd.named Bd.method).1
  have X0 : Stand p l e ({ frames := 0, cells := 0, slots := 0, locals := 0 } : Room) s m #[(.ref a1)] below meth c s₁ [] 0 0 := Stand.of_body Bd
  have e0 : s₁.heap = h0 := by rw [← hh, Bd.state]; rfl
  have N0 := Fr.nil n0
  have pre0 : ∀ t, Steps p.tables e below (s₁.setTop (mkF m 0 #[.val (.ref a1), .unset, .unset, .unset, .unset, .unset] [])) t → Steps p.tables e below (s₁.setTop (entryFrame m #[(.ref a1)] 6)) t := fun t k => castTop (ef_own_sumof m (a1)) k
  obtain ⟨cl1, Ar1, qc1, S1, Nn1, H1, G1⟩ := id V1
  have loop : ∀ (rest pre : List Int32) (sm i : Int32) (o : Slot), One o → bs = pre ++ rest → i.toInt = (pre.length : Int) → ∀ target, (∀ (i' : Int32) (o' : Slot), Steps p.tables e below (s₁.setTop (mkF m 37 #[.val (.ref a1), .val (.int (own_sum rest sm)), .val (.ref a1), .val (.int z1), .val (.int i'), o'] [])) target) → Steps p.tables e below (s₁.setTop (mkF m 10 #[.val (.ref a1), .val (.int sm), .val (.ref a1), .val (.int z1), .val (.int i), o] [])) target := by
    intro rest
    induction rest with
    | nil =>
      intro pre sm i o ho hbs hi target kt
      have hge : ¬ (i < z1) := by
        rw [Int32.lt_iff_toInt_lt, hi, hz, hbs]; simp
      show Steps p.tables e below (s₁.setTop (mkF m 10 #[.val (.ref a1), .val (.int sm), .val (.ref a1), .val (.int z1), .val (.int i), o] [])) _
      refine XS.iload X0.here hx rfl (hb hby d1_10) rfl ?_
      show Steps p.tables e below (s₁.setTop (mkF m 12 #[.val (.ref a1), .val (.int sm), .val (.ref a1), .val (.int z1), .val (.int i), o] [(.int i)])) _
      refine XS.iloadN X0.here hx rfl (hb hby d1_12) rfl ?_
      show Steps p.tables e below (s₁.setTop (mkF m 13 #[.val (.ref a1), .val (.int sm), .val (.ref a1), .val (.int z1), .val (.int i), o] [(.int z1), (.int i)])) _
      refine XS.icmpYes X0.here hx rfl (pc0 := 13) (pc' := 37) rfl (hb hby d1_13) rfl (flt (hge : ¬ (i < z1))).2.1 (by decide) (by decide) ?_
      exact kt i o
    | cons b rest ih =>
      intro pre sm i o ho hbs hi target kt
      have hlen : (bs.length : Int) = pre.length + 1 + rest.length := by rw [hbs]; simp; omega
      have hlt : i < z1 := by rw [Int32.lt_iff_toInt_lt, hi, hz]; omega
      have hi0 : ¬ (i < 0) := by rw [Int32.lt_iff_toInt_lt, hi]; simp
      have hnat : i.toNatClampNeg = pre.length := by simp only [Int32.toNatClampNeg, hi]; rfl
      have hin : ¬ (i < 0 ∨ cl1.slots.size ≤ i.toNatClampNeg) := inb_of S1 ⟨hi0, hlt⟩
      have hat : cl1.slots[i.toNatClampNeg]? = some (.int b) := H1.at hin (by rw [hnat, hbs]; simp)
      show Steps p.tables e below (s₁.setTop (mkF m 10 #[.val (.ref a1), .val (.int sm), .val (.ref a1), .val (.int z1), .val (.int i), o] [])) _
      refine XS.iload X0.here hx rfl (hb hby d1_10) rfl ?_
      show Steps p.tables e below (s₁.setTop (mkF m 12 #[.val (.ref a1), .val (.int sm), .val (.ref a1), .val (.int z1), .val (.int i), o] [(.int i)])) _
      refine XS.iloadN X0.here hx rfl (hb hby d1_12) rfl ?_
      show Steps p.tables e below (s₁.setTop (mkF m 13 #[.val (.ref a1), .val (.int sm), .val (.ref a1), .val (.int z1), .val (.int i), o] [(.int z1), (.int i)])) _
      refine XS.icmpNo X0.here hx rfl (hb hby d1_13) rfl (tlt (hlt : i < z1)).2.1 ?_
      show Steps p.tables e below (s₁.setTop (mkF m 16 #[.val (.ref a1), .val (.int sm), .val (.ref a1), .val (.int z1), .val (.int i), o] [])) _
      refine XS.aloadN X0.here hx rfl (hb hby d1_16) rfl rfl ?_
      show Steps p.tables e below (s₁.setTop (mkF m 17 #[.val (.ref a1), .val (.int sm), .val (.ref a1), .val (.int z1), .val (.int i), o] [(.ref a1)])) _
      refine XS.iload X0.here hx rfl (hb hby d1_17) rfl ?_
      show Steps p.tables e below (s₁.setTop (mkF m 19 #[.val (.ref a1), .val (.int sm), .val (.ref a1), .val (.int z1), .val (.int i), o] [(.int i), (.ref a1)])) _
      refine X0.baloadBytes hx (j := i) (v := (.int b)) (by rw [e0]; exact Ar1.1) (State.isArrayOf_alike hZ.alike Ar1.2.1) Ar1.2.2 hin hat (g := (mkF m 19 #[.val (.ref a1), .val (.int sm), .val (.ref a1), .val (.int z1), .val (.int i), o] [(.int i), (.ref a1)])) rfl rfl (hb hby d1_19) _ ?_
      show Steps p.tables e below (s₁.setTop (mkF m 20 #[.val (.ref a1), .val (.int sm), .val (.ref a1), .val (.int z1), .val (.int i), o] [(.int b)])) _
      refine XS.istore X0.here hx rfl (hb hby d1_20) rfl (l' := #[.val (.ref a1), .val (.int sm), .val (.ref a1), .val (.int z1), .val (.int i), .val (.int b)]) (own_os ho) ?_
      show Steps p.tables e below (s₁.setTop (mkF m 22 #[.val (.ref a1), .val (.int sm), .val (.ref a1), .val (.int z1), .val (.int i), .val (.int b)] [])) _
      refine XS.iloadN X0.here hx rfl (hb hby d1_22) rfl ?_
      show Steps p.tables e below (s₁.setTop (mkF m 23 #[.val (.ref a1), .val (.int sm), .val (.ref a1), .val (.int z1), .val (.int i), .val (.int b)] [(.int sm)])) _
      refine XS.iload X0.here hx rfl (hb hby d1_23) rfl ?_
      show Steps p.tables e below (s₁.setTop (mkF m 25 #[.val (.ref a1), .val (.int sm), .val (.ref a1), .val (.int z1), .val (.int i), .val (.int b)] [(.int b), (.int sm)])) _
      refine XS.sipush X0.here hx rfl (hb hby d1_25) ?_
      show Steps p.tables e below (s₁.setTop (mkF m 28 #[.val (.ref a1), .val (.int sm), .val (.ref a1), .val (.int z1), .val (.int i), .val (.int b)] [(.int (255 : Int32)), (.int b), (.int sm)])) _
      refine XS.iand X0.here hx rfl (hb hby d1_28) rfl ?_
      show Steps p.tables e below (s₁.setTop (mkF m 29 #[.val (.ref a1), .val (.int sm), .val (.ref a1), .val (.int z1), .val (.int i), .val (.int b)] [(.int (b &&& (255 : Int32))), (.int sm)])) _
      refine XS.iadd X0.here hx rfl (hb hby d1_29) rfl ?_
      show Steps p.tables e below (s₁.setTop (mkF m 30 #[.val (.ref a1), .val (.int sm), .val (.ref a1), .val (.int z1), .val (.int i), .val (.int b)] [(.int (sm + (b &&& (255 : Int32))))])) _
      refine XS.istoreN X0.here hx rfl (hb hby d1_30) rfl (l' := #[.val (.ref a1), .val (.int (sm + (b &&& (255 : Int32)))), .val (.ref a1), .val (.int z1), .val (.int i), .val (.int b)]) rfl ?_
      show Steps p.tables e below (s₁.setTop (mkF m 31 #[.val (.ref a1), .val (.int (sm + (b &&& (255 : Int32)))), .val (.ref a1), .val (.int z1), .val (.int i), .val (.int b)] [])) _
      refine XS.iinc X0.here hx rfl (hb hby d1_31) rfl (l' := #[.val (.ref a1), .val (.int (sm + (b &&& (255 : Int32)))), .val (.ref a1), .val (.int z1), .val (.int (i + (1 : Int32))), .val (.int b)]) rfl ?_
      show Steps p.tables e below (s₁.setTop (mkF m 34 #[.val (.ref a1), .val (.int (sm + (b &&& (255 : Int32)))), .val (.ref a1), .val (.int z1), .val (.int (i + (1 : Int32))), .val (.int b)] [])) _
      refine XS.goto X0.here hx rfl (pc0 := 34) (pc' := 10) rfl (hb hby d1_34) (by decide) (by decide) ?_
      refine ih (pre ++ [b]) _ _ _ (One.val rfl) (by rw [hbs]; simp) ?_ target kt
      have q := c_iadd i 1
      have t1 : (1 : Int32).toInt = 1 := rfl
      have r := rng32 (i + 1)
      have r2 := rng32 z1
      rw [t1] at q
      simp only [List.length_append, List.length_cons, List.length_nil]
      omega
  obtain ⟨fs, hr, hrun, hended, hW, hsame⟩ := X0.leave (v := some (.int ((own_sum bs (0 : Int32)) &&& (255 : Int32)))) (fun h => by rw [Bd.returns] at h; cases h)
  refine ⟨_, _, pre0 _ ?_, hrun, hended, _, _, rfl, ?_, ⟨_, rfl⟩, hW, hsame.mono (by decide) (by decide)⟩
  · show Steps p.tables e below (s₁.setTop (mkF m 0 #[.val (.ref a1), .unset, .unset, .unset, .unset, .unset] [])) _
    refine XS.iconst X0.here hx rfl (hb hby d1_0) ?_
    show Steps p.tables e below (s₁.setTop (mkF m 1 #[.val (.ref a1), .unset, .unset, .unset, .unset, .unset] [(.int (0 : Int32))])) _
    refine XS.istoreN X0.here hx rfl (hb hby d1_1) rfl (l' := #[.val (.ref a1), .val (.int (0 : Int32)), .unset, .unset, .unset, .unset]) rfl ?_
    show Steps p.tables e below (s₁.setTop (mkF m 2 #[.val (.ref a1), .val (.int (0 : Int32)), .unset, .unset, .unset, .unset] [])) _
    refine XS.aloadN X0.here hx rfl (hb hby d1_2) rfl rfl ?_
    show Steps p.tables e below (s₁.setTop (mkF m 3 #[.val (.ref a1), .val (.int (0 : Int32)), .unset, .unset, .unset, .unset] [(.ref a1)])) _
    refine XS.astoreN X0.here hx rfl (hb hby d1_3) rfl rfl (l' := #[.val (.ref a1), .val (.int (0 : Int32)), .val (.ref a1), .unset, .unset, .unset]) rfl ?_
    show Steps p.tables e below (s₁.setTop (mkF m 4 #[.val (.ref a1), .val (.int (0 : Int32)), .val (.ref a1), .unset, .unset, .unset] [])) _
    refine XS.aloadN X0.here hx rfl (hb hby d1_4) rfl rfl ?_
    show Steps p.tables e below (s₁.setTop (mkF m 5 #[.val (.ref a1), .val (.int (0 : Int32)), .val (.ref a1), .unset, .unset, .unset] [(.ref a1)])) _
    refine X0.arraylength hx (by rw [e0]; exact Ar1.1) (State.isArrayOf_alike hZ.alike Ar1.2.1) (g := (mkF m 5 #[.val (.ref a1), .val (.int (0 : Int32)), .val (.ref a1), .unset, .unset, .unset] [(.ref a1)])) rfl rfl (hb hby d1_5) _ ?_
    rw [len_of S1 Nn1]
    show Steps p.tables e below (s₁.setTop (mkF m 6 #[.val (.ref a1), .val (.int (0 : Int32)), .val (.ref a1), .unset, .unset, .unset] [(.int z1)])) _
    refine XS.istoreN X0.here hx rfl (hb hby d1_6) rfl (l' := #[.val (.ref a1), .val (.int (0 : Int32)), .val (.ref a1), .val (.int z1), .unset, .unset]) rfl ?_
    show Steps p.tables e below (s₁.setTop (mkF m 7 #[.val (.ref a1), .val (.int (0 : Int32)), .val (.ref a1), .val (.int z1), .unset, .unset] [])) _
    refine XS.iconst X0.here hx rfl (hb hby d1_7) ?_
    show Steps p.tables e below (s₁.setTop (mkF m 8 #[.val (.ref a1), .val (.int (0 : Int32)), .val (.ref a1), .val (.int z1), .unset, .unset] [(.int (0 : Int32))])) _
    refine XS.istore X0.here hx rfl (hb hby d1_8) rfl (l' := #[.val (.ref a1), .val (.int (0 : Int32)), .val (.ref a1), .val (.int z1), .val (.int (0 : Int32)), .unset]) rfl ?_
    show Steps p.tables e below (s₁.setTop (mkF m 10 #[.val (.ref a1), .val (.int (0 : Int32)), .val (.ref a1), .val (.int z1), .val (.int (0 : Int32)), .unset] [])) _
    refine loop bs [] _ _ _ One.u rfl rfl _ (fun i' o' => ?_)
    show Steps p.tables e below (s₁.setTop (mkF m 37 #[.val (.ref a1), .val (.int (own_sum bs (0 : Int32))), .val (.ref a1), .val (.int z1), .val (.int i'), o'] [])) _
    refine XS.iloadN X0.here hx rfl (hb hby d1_37) rfl ?_
    show Steps p.tables e below (s₁.setTop (mkF m 38 #[.val (.ref a1), .val (.int (own_sum bs (0 : Int32))), .val (.ref a1), .val (.int z1), .val (.int i'), o'] [(.int (own_sum bs (0 : Int32)))])) _
    refine XS.sipush X0.here hx rfl (hb hby d1_38) ?_
    show Steps p.tables e below (s₁.setTop (mkF m 41 #[.val (.ref a1), .val (.int (own_sum bs (0 : Int32))), .val (.ref a1), .val (.int z1), .val (.int i'), o'] [(.int (255 : Int32)), (.int (own_sum bs (0 : Int32)))])) _
    refine XS.iand X0.here hx rfl (hb hby d1_41) rfl ?_
    show Steps p.tables e below (s₁.setTop (mkF m 42 #[.val (.ref a1), .val (.int (own_sum bs (0 : Int32))), .val (.ref a1), .val (.int z1), .val (.int i'), o'] [(.int ((own_sum bs (0 : Int32)) &&& (255 : Int32)))])) _
    exact retI X0 hx Bd.returns (hb hby d1_42) hr
  · show Qown_sumof Z a1 k1 z1 bs h0 n0 _ s₁.heap _
    rw [e0]
    exact ⟨rfl, N0, rfl⟩
theorem pd___B_I : parseMethodDescriptor "([B)I" = some ⟨[(.array .byte)], some .int⟩ := by decide +kernel
theorem pd__JI_B : parseMethodDescriptor "(JI)B" = some ⟨[.long, .int], some .byte⟩ := by decide +kernel
theorem ef_own_law (m : MethodId) (x0 : Int32) (x1 : Int64) : entryFrame m #[(.int x0), (.long x1)] maxLocals = mkF m 0 #[.val (.int x0), .val (.long x1), .second, .unset, .unset, .unset, .unset] [] := by first | (simp [entryFrame, mkF, argsToLocals, Value.category, maxLocals]; done) | rfl
def Qown_law (Z : State) (p1 : Int32) (q1 : Int64) (h0 : Heap) (n0 : Nat) (v : Option Value) (h : Heap) (L : List Loc) : Prop := v = some (.int (1 : Int32)) ∧ Fr n0 L
set_option maxRecDepth 65536 in
set_option maxHeartbeats 40000000 in
theorem own_law (l : Launch) (Z : State) (a0 : Array Value) (hw : ∀ d ∈ tables_1, d.before a0 Z = true) (ws : List Jvm.Cond) (p1 : Int32) (q1 : Int64) (h0 : Heap) (n0 : Nat) (Z0 : n0 ≤ h0.size) :
    MetFree l x (head1 (Jvm.Cond.code x code maxLocals ret :: ws) room_1) (fun a U => a = #[(.int p1), (.long q1)] ∧ Z.Warmed39 U.vm ∧ U.heap = h0) (fun _ _ _ _ _ => True) (fun _ U o U' => ∃ v L, o = .returned v ∧ Qown_law Z p1 q1 h0 n0 v U'.heap L ∧ FrameEnd U o U' L room_1.cells room_1.slots) := by
  refine MetFree.of_bodySF (plainFor_of_name pn_com_example_assaybus_assaybus_link_FrameChecksumPinLaw) hisR ?_
  intro p e s m args below meth c s₁ Bd hml0 hP hK
  obtain ⟨rfl, hZ, hh⟩ := hP
  have hx := Bd.exec
  have hby := Bd.bytes
  have hml : c.maxLocals = 7 := hml0
  have hown : s.vm.findClass "com/example/assaybus/assaybus/link/FrameChecksumPinLaw" = some m.cls := findClass_of_methodNamed Bd.named
  have hnm := (name_of_methodNamed Bd.named Bd.method).1
  have X0 : Stand p l e room_1 s m #[(.int p1), (.long q1)] below meth c s₁ [] 0 0 := Stand.of_body Bd
  have e0 : s₁.heap = h0 := by rw [← hh, Bd.state]; rfl
  have N0 := Fr.nil n0
  have pre0 : ∀ t, Steps p.tables e below (s₁.setTop (mkF m 0 #[.val (.int p1), .val (.long q1), .second, .unset, .unset, .unset, .unset] [])) t → Steps p.tables e below (s₁.setTop (entryFrame m #[(.int p1), (.long q1)] maxLocals)) t := fun t k => castTop (ef_own_law m (p1) (q1)) k
  rcases own_len p1 with hl | hl | hl | hl | hl | hl | hl | hl | hl
  · obtain ⟨T1, h1, k1, X1, e1, E1, A1, st1⟩ := newP X0 hx hZ (hw _ (List.mem_of_getElem? (i := 1) rfl)) e0 (g := (mkF m 9 #[.val (.int p1), .val (.long q1), .second, .val (.int (0 : Int32)), .unset, .unset, .unset] [(.int (0 : Int32))])) rfl (hb hby at_9) rfl (by decide) (cap := 0) (by decide) (by decide) (by decide) (by decide)
    obtain ⟨b1, g1⟩ : ∃ z, z = h0.size := ⟨_, rfl⟩
    rw [← g1] at A1 st1
    have V1 : Arv Z h1 b1 k1 .byte (0 : Int32) [] (.int (0 : Int32)) := (Arv.new A1 (by decide)).pad (pad_rep [] (.int (0 : Int32)) 0)
    have g_b1 : n0 ≤ b1 := Nat.le_trans Z0 (Nat.le_of_eq g1.symm)
    have sz_b1 : h0.size ≤ b1 := Nat.le_trans (Keep.refl h0 []).1 (Nat.le_of_eq g1.symm)
    have Z1 : n0 ≤ h1.size := Nat.le_trans Z0 E1.1
    have K1 : Keep h0 h1 [] := (Keep.refl h0 []).ext E1
    obtain ⟨_, _, ⟨T2, L2, k2, n2⟩, -, X2, ⟨Lc2, hQ2, l2, y2, z2⟩, st2⟩ := Jvm.LawKit.callS X1 hx (y := (⟨"com/example/assaybus/assaybus/link/Frame", "checksum", "([B)I"⟩ : MethodName)) hown (mvT hZ (hw _ (List.mem_of_getElem? (i := 2) rfl))) (mvT hZ (hw _ (List.mem_of_getElem? (i := 3) rfl))) (mvT hZ (hw _ (List.mem_of_getElem? (i := 4) rfl))) (mvT hZ (hw _ (List.mem_of_getElem? (i := 5) rfl))) (by decide) (backOf (W := 0) (own_sumof l Z a0 hw [] b1 k1 (0 : Int32) [] h1 n0 Z1 V1 rfl) hZ (hw _ (List.mem_of_getElem? (i := 5) rfl)) (hw _ (List.mem_of_getElem? (i := 4) rfl)) (by decide) (by decide)) (g := (mkF m 217 #[.val (.int p1), .val (.long q1), .second, .val (.int (0 : Int32)), .val (.ref b1), .val (.int (0 : Int32)), .unset] [(.ref b1)])) rfl (by rw [hml]; rfl) (argsL := [(.ref b1)]) (rest := []) (lenOf pd___B_I rfl) rfl (by show 2 * 0 + _ ≤ _; exact Nat.le_of_eq rfl) (hb hby at_217) (fun _ _ => ⟨rfl, e1, (by decide : 1 + 0 ≤ _), (by decide : 0 + 0 ≤ _)⟩)
    dsimp only [Pt.U, Pt.locs, Pt.cells, Pt.slots] at X2 l2 y2 z2 st2 hQ2
    replace X2 := X2.more (Nat.le_of_eq (show k2 = 1 from y2)) (Nat.le_of_eq (show n2 = 0 from z2))
    obtain ⟨rfl, Nq2, e2⟩ := hQ2
    have N2 : Fr n0 L2 := by rw [l2]; exact Fr.app N0 Nq2
    obtain ⟨fs, hr, hrun, hended, hW, hsame⟩ := X2.leave (v := some (.int (1 : Int32))) (fun h => by rw [Bd.returns] at h; cases h)
    refine ⟨_, _, pre0 _ ?_, hrun, hended, _, _, rfl, ?_, ⟨_, rfl⟩, hW, hsame.mono (by decide) (by decide)⟩
    · show Steps p.tables e below (s₁.setTop (mkF m 0 #[.val (.int p1), .val (.long q1), .second, .unset, .unset, .unset, .unset] [])) _
      refine XS.iloadN X0.here hx rfl (hb hby at_0) rfl ?_
      show Steps p.tables e below (s₁.setTop (mkF m 1 #[.val (.int p1), .val (.long q1), .second, .unset, .unset, .unset, .unset] [(.int p1)])) _
      refine X0.ldcInt hx hown (mvT hZ (hw _ (List.mem_of_getElem? (i := 0) rfl))) (g := (mkF m 1 #[.val (.int p1), .val (.long q1), .second, .unset, .unset, .unset, .unset] [(.int p1)])) rfl (hb hby at_1) _ ?_
      show Steps p.tables e below (s₁.setTop (mkF m 3 #[.val (.int p1), .val (.long q1), .second, .unset, .unset, .unset, .unset] [(.int (2147483647 : Int32)), (.int p1)])) _
      refine XS.iand X0.here hx rfl (hb hby at_3) rfl ?_
      show Steps p.tables e below (s₁.setTop (mkF m 4 #[.val (.int p1), .val (.long q1), .second, .unset, .unset, .unset, .unset] [(.int (p1 &&& (2147483647 : Int32)))])) _
      refine XS.bipush X0.here hx rfl (hb hby at_4) ?_
      show Steps p.tables e below (s₁.setTop (mkF m 6 #[.val (.int p1), .val (.long q1), .second, .unset, .unset, .unset, .unset] [(.int (9 : Int32)), (.int (p1 &&& (2147483647 : Int32)))])) _
      refine iremM X0 hx rfl (hb hby at_6) rfl (by decide) ?_
      show Steps p.tables e below (s₁.setTop (mkF m 7 #[.val (.int p1), .val (.long q1), .second, .unset, .unset, .unset, .unset] [(.int ((p1 &&& (2147483647 : Int32)) % (9 : Int32)))])) _
      rw [hl]
      show Steps p.tables e below (s₁.setTop (mkF m 7 #[.val (.int p1), .val (.long q1), .second, .unset, .unset, .unset, .unset] [(.int (0 : Int32))])) _
      refine XS.istoreN X0.here hx rfl (hb hby at_7) rfl (l' := #[.val (.int p1), .val (.long q1), .second, .val (.int (0 : Int32)), .unset, .unset, .unset]) rfl ?_
      show Steps p.tables e below (s₁.setTop (mkF m 8 #[.val (.int p1), .val (.long q1), .second, .val (.int (0 : Int32)), .unset, .unset, .unset] [])) _
      refine XS.iloadN X0.here hx rfl (hb hby at_8) rfl ?_
      show Steps p.tables e below (s₁.setTop (mkF m 9 #[.val (.int p1), .val (.long q1), .second, .val (.int (0 : Int32)), .unset, .unset, .unset] [(.int (0 : Int32))])) _
      refine st1 _ ?_
      show Steps p.tables e below (T1.setTop (mkF m 11 #[.val (.int p1), .val (.long q1), .second, .val (.int (0 : Int32)), .unset, .unset, .unset] [(.ref b1)])) _
      refine XS.astore X1.here hx rfl (hb hby at_11) rfl rfl (l' := #[.val (.int p1), .val (.long q1), .second, .val (.int (0 : Int32)), .val (.ref b1), .unset, .unset]) rfl ?_
      show Steps p.tables e below (T1.setTop (mkF m 13 #[.val (.int p1), .val (.long q1), .second, .val (.int (0 : Int32)), .val (.ref b1), .unset, .unset] [])) _
      refine XS.iconst X1.here hx rfl (hb hby at_13) ?_
      show Steps p.tables e below (T1.setTop (mkF m 14 #[.val (.int p1), .val (.long q1), .second, .val (.int (0 : Int32)), .val (.ref b1), .unset, .unset] [(.int (0 : Int32))])) _
      refine XS.istore X1.here hx rfl (hb hby at_14) rfl (l' := #[.val (.int p1), .val (.long q1), .second, .val (.int (0 : Int32)), .val (.ref b1), .val (.int (0 : Int32)), .unset]) rfl ?_
      show Steps p.tables e below (T1.setTop (mkF m 16 #[.val (.int p1), .val (.long q1), .second, .val (.int (0 : Int32)), .val (.ref b1), .val (.int (0 : Int32)), .unset] [])) _
      refine XS.iloadN X1.here hx rfl (hb hby at_16) rfl ?_
      show Steps p.tables e below (T1.setTop (mkF m 17 #[.val (.int p1), .val (.long q1), .second, .val (.int (0 : Int32)), .val (.ref b1), .val (.int (0 : Int32)), .unset] [(.int (0 : Int32))])) _
      refine XS.ifYes X1.here hx rfl (pc0 := 17) (pc' := 39) rfl (hb hby at_17) rfl ((if0 _ _).trans (flt (by decide : ¬ ((0 : Int32) < (0 : Int32)))).2.2.2) (by decide) (by decide) ?_
      show Steps p.tables e below (T1.setTop (mkF m 39 #[.val (.int p1), .val (.long q1), .second, .val (.int (0 : Int32)), .val (.ref b1), .val (.int (0 : Int32)), .unset] [])) _
      refine XS.iloadN X1.here hx rfl (hb hby at_39) rfl ?_
      show Steps p.tables e below (T1.setTop (mkF m 40 #[.val (.int p1), .val (.long q1), .second, .val (.int (0 : Int32)), .val (.ref b1), .val (.int (0 : Int32)), .unset] [(.int (0 : Int32))])) _
      refine XS.iconst X1.here hx rfl (hb hby at_40) ?_
      show Steps p.tables e below (T1.setTop (mkF m 41 #[.val (.int p1), .val (.long q1), .second, .val (.int (0 : Int32)), .val (.ref b1), .val (.int (0 : Int32)), .unset] [(.int (1 : Int32)), (.int (0 : Int32))])) _
      refine XS.icmpYes X1.here hx rfl (pc0 := 41) (pc' := 63) rfl (hb hby at_41) rfl (flt (by decide : ¬ ((1 : Int32) < (0 : Int32)))).2.2.2 (by decide) (by decide) ?_
      show Steps p.tables e below (T1.setTop (mkF m 63 #[.val (.int p1), .val (.long q1), .second, .val (.int (0 : Int32)), .val (.ref b1), .val (.int (0 : Int32)), .unset] [])) _
      refine XS.iloadN X1.here hx rfl (hb hby at_63) rfl ?_
      show Steps p.tables e below (T1.setTop (mkF m 64 #[.val (.int p1), .val (.long q1), .second, .val (.int (0 : Int32)), .val (.ref b1), .val (.int (0 : Int32)), .unset] [(.int (0 : Int32))])) _
      refine XS.iconst X1.here hx rfl (hb hby at_64) ?_
      show Steps p.tables e below (T1.setTop (mkF m 65 #[.val (.int p1), .val (.long q1), .second, .val (.int (0 : Int32)), .val (.ref b1), .val (.int (0 : Int32)), .unset] [(.int (2 : Int32)), (.int (0 : Int32))])) _
      refine XS.icmpYes X1.here hx rfl (pc0 := 65) (pc' := 87) rfl (hb hby at_65) rfl (flt (by decide : ¬ ((2 : Int32) < (0 : Int32)))).2.2.2 (by decide) (by decide) ?_
      show Steps p.tables e below (T1.setTop (mkF m 87 #[.val (.int p1), .val (.long q1), .second, .val (.int (0 : Int32)), .val (.ref b1), .val (.int (0 : Int32)), .unset] [])) _
      refine XS.iloadN X1.here hx rfl (hb hby at_87) rfl ?_
      show Steps p.tables e below (T1.setTop (mkF m 88 #[.val (.int p1), .val (.long q1), .second, .val (.int (0 : Int32)), .val (.ref b1), .val (.int (0 : Int32)), .unset] [(.int (0 : Int32))])) _
      refine XS.iconst X1.here hx rfl (hb hby at_88) ?_
      show Steps p.tables e below (T1.setTop (mkF m 89 #[.val (.int p1), .val (.long q1), .second, .val (.int (0 : Int32)), .val (.ref b1), .val (.int (0 : Int32)), .unset] [(.int (3 : Int32)), (.int (0 : Int32))])) _
      refine XS.icmpYes X1.here hx rfl (pc0 := 89) (pc' := 111) rfl (hb hby at_89) rfl (flt (by decide : ¬ ((3 : Int32) < (0 : Int32)))).2.2.2 (by decide) (by decide) ?_
      show Steps p.tables e below (T1.setTop (mkF m 111 #[.val (.int p1), .val (.long q1), .second, .val (.int (0 : Int32)), .val (.ref b1), .val (.int (0 : Int32)), .unset] [])) _
      refine XS.iloadN X1.here hx rfl (hb hby at_111) rfl ?_
      show Steps p.tables e below (T1.setTop (mkF m 112 #[.val (.int p1), .val (.long q1), .second, .val (.int (0 : Int32)), .val (.ref b1), .val (.int (0 : Int32)), .unset] [(.int (0 : Int32))])) _
      refine XS.iconst X1.here hx rfl (hb hby at_112) ?_
      show Steps p.tables e below (T1.setTop (mkF m 113 #[.val (.int p1), .val (.long q1), .second, .val (.int (0 : Int32)), .val (.ref b1), .val (.int (0 : Int32)), .unset] [(.int (4 : Int32)), (.int (0 : Int32))])) _
      refine XS.icmpYes X1.here hx rfl (pc0 := 113) (pc' := 135) rfl (hb hby at_113) rfl (flt (by decide : ¬ ((4 : Int32) < (0 : Int32)))).2.2.2 (by decide) (by decide) ?_
      show Steps p.tables e below (T1.setTop (mkF m 135 #[.val (.int p1), .val (.long q1), .second, .val (.int (0 : Int32)), .val (.ref b1), .val (.int (0 : Int32)), .unset] [])) _
      refine XS.iloadN X1.here hx rfl (hb hby at_135) rfl ?_
      show Steps p.tables e below (T1.setTop (mkF m 136 #[.val (.int p1), .val (.long q1), .second, .val (.int (0 : Int32)), .val (.ref b1), .val (.int (0 : Int32)), .unset] [(.int (0 : Int32))])) _
      refine XS.iconst X1.here hx rfl (hb hby at_136) ?_
      show Steps p.tables e below (T1.setTop (mkF m 137 #[.val (.int p1), .val (.long q1), .second, .val (.int (0 : Int32)), .val (.ref b1), .val (.int (0 : Int32)), .unset] [(.int (5 : Int32)), (.int (0 : Int32))])) _
      refine XS.icmpYes X1.here hx rfl (pc0 := 137) (pc' := 159) rfl (hb hby at_137) rfl (flt (by decide : ¬ ((5 : Int32) < (0 : Int32)))).2.2.2 (by decide) (by decide) ?_
      show Steps p.tables e below (T1.setTop (mkF m 159 #[.val (.int p1), .val (.long q1), .second, .val (.int (0 : Int32)), .val (.ref b1), .val (.int (0 : Int32)), .unset] [])) _
      refine XS.iloadN X1.here hx rfl (hb hby at_159) rfl ?_
      show Steps p.tables e below (T1.setTop (mkF m 160 #[.val (.int p1), .val (.long q1), .second, .val (.int (0 : Int32)), .val (.ref b1), .val (.int (0 : Int32)), .unset] [(.int (0 : Int32))])) _
      refine XS.bipush X1.here hx rfl (hb hby at_160) ?_
      show Steps p.tables e below (T1.setTop (mkF m 162 #[.val (.int p1), .val (.long q1), .second, .val (.int (0 : Int32)), .val (.ref b1), .val (.int (0 : Int32)), .unset] [(.int (6 : Int32)), (.int (0 : Int32))])) _
      refine XS.icmpYes X1.here hx rfl (pc0 := 162) (pc' := 187) rfl (hb hby at_162) rfl (flt (by decide : ¬ ((6 : Int32) < (0 : Int32)))).2.2.2 (by decide) (by decide) ?_
      show Steps p.tables e below (T1.setTop (mkF m 187 #[.val (.int p1), .val (.long q1), .second, .val (.int (0 : Int32)), .val (.ref b1), .val (.int (0 : Int32)), .unset] [])) _
      refine XS.iloadN X1.here hx rfl (hb hby at_187) rfl ?_
      show Steps p.tables e below (T1.setTop (mkF m 188 #[.val (.int p1), .val (.long q1), .second, .val (.int (0 : Int32)), .val (.ref b1), .val (.int (0 : Int32)), .unset] [(.int (0 : Int32))])) _
      refine XS.bipush X1.here hx rfl (hb hby at_188) ?_
      show Steps p.tables e below (T1.setTop (mkF m 190 #[.val (.int p1), .val (.long q1), .second, .val (.int (0 : Int32)), .val (.ref b1), .val (.int (0 : Int32)), .unset] [(.int (7 : Int32)), (.int (0 : Int32))])) _
      refine XS.icmpYes X1.here hx rfl (pc0 := 190) (pc' := 215) rfl (hb hby at_190) rfl (flt (by decide : ¬ ((7 : Int32) < (0 : Int32)))).2.2.2 (by decide) (by decide) ?_
      show Steps p.tables e below (T1.setTop (mkF m 215 #[.val (.int p1), .val (.long q1), .second, .val (.int (0 : Int32)), .val (.ref b1), .val (.int (0 : Int32)), .unset] [])) _
      refine XS.aload X1.here hx rfl (hb hby at_215) rfl rfl ?_
      show Steps p.tables e below (T1.setTop (mkF m 217 #[.val (.int p1), .val (.long q1), .second, .val (.int (0 : Int32)), .val (.ref b1), .val (.int (0 : Int32)), .unset] [(.ref b1)])) _
      refine st2 _ ?_
      show Steps p.tables e below (T2.setTop (mkF m 220 #[.val (.int p1), .val (.long q1), .second, .val (.int (0 : Int32)), .val (.ref b1), .val (.int (0 : Int32)), .unset] [(.int (own_cs []))])) _
      refine XS.istore X2.here hx rfl (hb hby at_220) rfl (l' := #[.val (.int p1), .val (.long q1), .second, .val (.int (0 : Int32)), .val (.ref b1), .val (.int (0 : Int32)), .val (.int (own_cs []))]) rfl ?_
      show Steps p.tables e below (T2.setTop (mkF m 222 #[.val (.int p1), .val (.long q1), .second, .val (.int (0 : Int32)), .val (.ref b1), .val (.int (0 : Int32)), .val (.int (own_cs []))] [])) _
      refine XS.iload X2.here hx rfl (hb hby at_222) rfl ?_
      show Steps p.tables e below (T2.setTop (mkF m 224 #[.val (.int p1), .val (.long q1), .second, .val (.int (0 : Int32)), .val (.ref b1), .val (.int (0 : Int32)), .val (.int (own_cs []))] [(.int (own_cs []))])) _
      refine XS.iload X2.here hx rfl (hb hby at_224) rfl ?_
      show Steps p.tables e below (T2.setTop (mkF m 226 #[.val (.int p1), .val (.long q1), .second, .val (.int (0 : Int32)), .val (.ref b1), .val (.int (0 : Int32)), .val (.int (own_cs []))] [(.int (0 : Int32)), (.int (own_cs []))])) _
      refine XS.sipush X2.here hx rfl (hb hby at_226) ?_
      show Steps p.tables e below (T2.setTop (mkF m 229 #[.val (.int p1), .val (.long q1), .second, .val (.int (0 : Int32)), .val (.ref b1), .val (.int (0 : Int32)), .val (.int (own_cs []))] [(.int (255 : Int32)), (.int (0 : Int32)), (.int (own_cs []))])) _
      refine XS.iand X2.here hx rfl (hb hby at_229) rfl ?_
      show Steps p.tables e below (T2.setTop (mkF m 230 #[.val (.int p1), .val (.long q1), .second, .val (.int (0 : Int32)), .val (.ref b1), .val (.int (0 : Int32)), .val (.int (own_cs []))] [(.int ((0 : Int32) &&& (255 : Int32))), (.int (own_cs []))])) _
      refine XS.icmpNo X2.here hx rfl (hb hby at_230) rfl (teq (own_key [] : (own_cs []) = ((0 : Int32) &&& (255 : Int32)))).2 ?_
      show Steps p.tables e below (T2.setTop (mkF m 233 #[.val (.int p1), .val (.long q1), .second, .val (.int (0 : Int32)), .val (.ref b1), .val (.int (0 : Int32)), .val (.int (own_cs []))] [])) _
      refine XS.iconst X2.here hx rfl (hb hby at_233) ?_
      show Steps p.tables e below (T2.setTop (mkF m 234 #[.val (.int p1), .val (.long q1), .second, .val (.int (0 : Int32)), .val (.ref b1), .val (.int (0 : Int32)), .val (.int (own_cs []))] [(.int (1 : Int32))])) _
      refine XS.goto X2.here hx rfl (pc0 := 234) (pc' := 238) rfl (hb hby at_234) (by decide) (by decide) ?_
      show Steps p.tables e below (T2.setTop (mkF m 238 #[.val (.int p1), .val (.long q1), .second, .val (.int (0 : Int32)), .val (.ref b1), .val (.int (0 : Int32)), .val (.int (own_cs []))] [(.int (1 : Int32))])) _
      exact retN X2 hx (t := .boolean) Bd.returns (by simp) (hb hby at_238) hr
    · show Qown_law Z p1 q1 h0 n0 _ T2.heap _
      rw [e2]
      exact ⟨rfl, N2⟩
  · obtain ⟨T3, h3, k3, X3, e3, E3, A3, st3⟩ := newP X0 hx hZ (hw _ (List.mem_of_getElem? (i := 1) rfl)) e0 (g := (mkF m 9 #[.val (.int p1), .val (.long q1), .second, .val (.int (1 : Int32)), .unset, .unset, .unset] [(.int (1 : Int32))])) rfl (hb hby at_9) rfl (by decide) (cap := 1) (by decide) (by decide) (by decide) (by decide)
    obtain ⟨b3, g3⟩ : ∃ z, z = h0.size := ⟨_, rfl⟩
    rw [← g3] at A3 st3
    have V3 : Arv Z h3 b3 k3 .byte (1 : Int32) [(.int (0 : Int32))] (.int (0 : Int32)) := (Arv.new A3 (by decide)).pad (pad_rep [] (.int (0 : Int32)) 1)
    have g_b3 : n0 ≤ b3 := Nat.le_trans Z0 (Nat.le_of_eq g3.symm)
    have sz_b3 : h0.size ≤ b3 := Nat.le_trans (Keep.refl h0 []).1 (Nat.le_of_eq g3.symm)
    have Z3 : n0 ≤ h3.size := Nat.le_trans Z0 E3.1
    have K3 : Keep h0 h3 [] := (Keep.refl h0 []).ext E3
    obtain ⟨_, _, ⟨T4, L4, k4, n4⟩, -, X4, ⟨Lc4, hQ4, l4, y4, z4⟩, st4⟩ := Jvm.LawKit.callS X3 hx (y := (⟨"com/example/assaybus/assaybus/link/FrameChecksumPinLaw", "at", "(JI)B"⟩ : MethodName)) hown (mvT hZ (hw _ (List.mem_of_getElem? (i := 6) rfl))) (mvT hZ (hw _ (List.mem_of_getElem? (i := 7) rfl))) (mvT hZ (hw _ (List.mem_of_getElem? (i := 8) rfl))) (mvT hZ (hw _ (List.mem_of_getElem? (i := 9) rfl))) (by decide) (backOf (W := 2) (own_mat l Z a0 hw [] q1 (0 : Int32)  h3 n0 Z3 ) hZ (hw _ (List.mem_of_getElem? (i := 9) rfl)) (hw _ (List.mem_of_getElem? (i := 8) rfl)) (by decide) (by decide)) (g := (mkF m 25 #[.val (.int p1), .val (.long q1), .second, .val (.int (1 : Int32)), .val (.ref b3), .val (.int (0 : Int32)), .unset] [(.int (0 : Int32)), (.long q1), (.int (0 : Int32)), (.ref b3)])) rfl (by rw [hml]; rfl) (argsL := [(.long q1), (.int (0 : Int32))]) (rest := [(.int (0 : Int32)), (.ref b3)]) (lenOf pd__JI_B rfl) rfl (by show 2 * 0 + _ ≤ _; exact Nat.le_of_eq rfl) (hb hby at_25) (fun _ _ => ⟨rfl, e3, (by decide : 1 + 0 ≤ _), (by decide : 1 + 0 ≤ _)⟩)
    dsimp only [Pt.U, Pt.locs, Pt.cells, Pt.slots] at X4 l4 y4 z4 st4 hQ4
    replace X4 := X4.more (Nat.le_of_eq (show k4 = 1 from y4)) (Nat.le_of_eq (show n4 = 1 from z4))
    obtain ⟨rfl, Nq4, e4⟩ := hQ4
    have N4 : Fr n0 L4 := by rw [l4]; exact Fr.app N0 Nq4
    obtain ⟨cl5, Ar5, qc5, S5, Nn5, H5, G5⟩ := id V3
    have hin5 : ¬ ((0 : Int32) < 0 ∨ cl5.slots.size ≤ ((0 : Int32)).toNatClampNeg) := inb_of S5 ⟨by decide, by decide⟩
    obtain ⟨T6, h6, X6, e6, W6, st6⟩ := stB X4 hx hZ e4 Ar5 (j := (0 : Int32)) hin5 (g := (mkF m 28 #[.val (.int p1), .val (.long q1), .second, .val (.int (1 : Int32)), .val (.ref b3), .val (.int (0 : Int32)), .unset] [(.int (own_at q1 (0 : Int32))), (.int (0 : Int32)), (.ref b3)])) rfl rfl (hb hby at_28)
    have V6 : Arv Z h6 b3 k3 .byte (1 : Int32) [(.int (nar .byte (own_at q1 (0 : Int32))))] (.int (0 : Int32)) := Arv.set Ar5 qc5 S5 Nn5 H5 G5 (fits_nar_byte _) W6 0 rfl (Nat.le_of_ble_eq_true rfl)
    have V6v : Arv Z h6 b3 k3 .byte (1 : Int32) [(.int (own_at q1 (0 : Int32)))] (.int (0 : Int32)) := by have q := V6; rw [own_nara] at q; exact q
    have K6 : Keep h0 h6 [] := K3.wr W6 (Or.inr sz_b3)
    have N6 := Fr.snoc X6 N4 g_b3
    have Z6 : n0 ≤ h6.size := Nat.le_trans Z3 (Keep.of_wr W6).1
    obtain ⟨_, _, ⟨T7, L7, k7, n7⟩, -, X7, ⟨Lc7, hQ7, l7, y7, z7⟩, st7⟩ := Jvm.LawKit.callS X6 hx (y := (⟨"com/example/assaybus/assaybus/link/FrameChecksumPinLaw", "at", "(JI)B"⟩ : MethodName)) hown (mvT hZ (hw _ (List.mem_of_getElem? (i := 6) rfl))) (mvT hZ (hw _ (List.mem_of_getElem? (i := 7) rfl))) (mvT hZ (hw _ (List.mem_of_getElem? (i := 8) rfl))) (mvT hZ (hw _ (List.mem_of_getElem? (i := 9) rfl))) (by decide) (backOf (W := 1) (own_mat l Z a0 hw [] q1 (0 : Int32)  h6 n0 Z6 ) hZ (hw _ (List.mem_of_getElem? (i := 9) rfl)) (hw _ (List.mem_of_getElem? (i := 8) rfl)) (by decide) (by decide)) (g := (mkF m 33 #[.val (.int p1), .val (.long q1), .second, .val (.int (1 : Int32)), .val (.ref b3), .val (.int (0 : Int32)), .unset] [(.int (0 : Int32)), (.long q1), (.int (0 : Int32))])) rfl (by rw [hml]; rfl) (argsL := [(.long q1), (.int (0 : Int32))]) (rest := [(.int (0 : Int32))]) (lenOf pd__JI_B rfl) rfl (by show 2 * 0 + _ ≤ _; exact Nat.le_of_eq rfl) (hb hby at_33) (fun _ _ => ⟨rfl, e6, (by decide : 1 + 0 ≤ _), (by decide : 1 + 0 ≤ _)⟩)
    dsimp only [Pt.U, Pt.locs, Pt.cells, Pt.slots] at X7 l7 y7 z7 st7 hQ7
    replace X7 := X7.more (Nat.le_of_eq (show k7 = 1 from y7)) (Nat.le_of_eq (show n7 = 1 from z7))
    obtain ⟨rfl, Nq7, e7⟩ := hQ7
    have N7 : Fr n0 L7 := by rw [l7]; exact Fr.app N6 Nq7
    obtain ⟨_, _, ⟨T8, L8, k8, n8⟩, -, X8, ⟨Lc8, hQ8, l8, y8, z8⟩, st8⟩ := Jvm.LawKit.callS X7 hx (y := (⟨"com/example/assaybus/assaybus/link/Frame", "checksum", "([B)I"⟩ : MethodName)) hown (mvT hZ (hw _ (List.mem_of_getElem? (i := 2) rfl))) (mvT hZ (hw _ (List.mem_of_getElem? (i := 3) rfl))) (mvT hZ (hw _ (List.mem_of_getElem? (i := 4) rfl))) (mvT hZ (hw _ (List.mem_of_getElem? (i := 5) rfl))) (by decide) (backOf (W := 0) (own_sumof l Z a0 hw [] b3 k3 (1 : Int32) [(own_at q1 (0 : Int32))] h6 n0 Z6 V6v rfl) hZ (hw _ (List.mem_of_getElem? (i := 5) rfl)) (hw _ (List.mem_of_getElem? (i := 4) rfl)) (by decide) (by decide)) (g := (mkF m 217 #[.val (.int p1), .val (.long q1), .second, .val (.int (1 : Int32)), .val (.ref b3), .val (.int ((0 : Int32) + (own_at q1 (0 : Int32)))), .unset] [(.ref b3)])) rfl (by rw [hml]; rfl) (argsL := [(.ref b3)]) (rest := []) (lenOf pd___B_I rfl) rfl (by show 2 * 0 + _ ≤ _; exact Nat.le_of_eq rfl) (hb hby at_217) (fun _ _ => ⟨rfl, e7, (by decide : 1 + 0 ≤ _), (by decide : 1 + 0 ≤ _)⟩)
    dsimp only [Pt.U, Pt.locs, Pt.cells, Pt.slots] at X8 l8 y8 z8 st8 hQ8
    replace X8 := X8.more (Nat.le_of_eq (show k8 = 1 from y8)) (Nat.le_of_eq (show n8 = 1 from z8))
    obtain ⟨rfl, Nq8, e8⟩ := hQ8
    have N8 : Fr n0 L8 := by rw [l8]; exact Fr.app N7 Nq8
    obtain ⟨fs, hr, hrun, hended, hW, hsame⟩ := X8.leave (v := some (.int (1 : Int32))) (fun h => by rw [Bd.returns] at h; cases h)
    refine ⟨_, _, pre0 _ ?_, hrun, hended, _, _, rfl, ?_, ⟨_, rfl⟩, hW, hsame.mono (by decide) (by decide)⟩
    · show Steps p.tables e below (s₁.setTop (mkF m 0 #[.val (.int p1), .val (.long q1), .second, .unset, .unset, .unset, .unset] [])) _
      refine XS.iloadN X0.here hx rfl (hb hby at_0) rfl ?_
      show Steps p.tables e below (s₁.setTop (mkF m 1 #[.val (.int p1), .val (.long q1), .second, .unset, .unset, .unset, .unset] [(.int p1)])) _
      refine X0.ldcInt hx hown (mvT hZ (hw _ (List.mem_of_getElem? (i := 0) rfl))) (g := (mkF m 1 #[.val (.int p1), .val (.long q1), .second, .unset, .unset, .unset, .unset] [(.int p1)])) rfl (hb hby at_1) _ ?_
      show Steps p.tables e below (s₁.setTop (mkF m 3 #[.val (.int p1), .val (.long q1), .second, .unset, .unset, .unset, .unset] [(.int (2147483647 : Int32)), (.int p1)])) _
      refine XS.iand X0.here hx rfl (hb hby at_3) rfl ?_
      show Steps p.tables e below (s₁.setTop (mkF m 4 #[.val (.int p1), .val (.long q1), .second, .unset, .unset, .unset, .unset] [(.int (p1 &&& (2147483647 : Int32)))])) _
      refine XS.bipush X0.here hx rfl (hb hby at_4) ?_
      show Steps p.tables e below (s₁.setTop (mkF m 6 #[.val (.int p1), .val (.long q1), .second, .unset, .unset, .unset, .unset] [(.int (9 : Int32)), (.int (p1 &&& (2147483647 : Int32)))])) _
      refine iremM X0 hx rfl (hb hby at_6) rfl (by decide) ?_
      show Steps p.tables e below (s₁.setTop (mkF m 7 #[.val (.int p1), .val (.long q1), .second, .unset, .unset, .unset, .unset] [(.int ((p1 &&& (2147483647 : Int32)) % (9 : Int32)))])) _
      rw [hl]
      show Steps p.tables e below (s₁.setTop (mkF m 7 #[.val (.int p1), .val (.long q1), .second, .unset, .unset, .unset, .unset] [(.int (1 : Int32))])) _
      refine XS.istoreN X0.here hx rfl (hb hby at_7) rfl (l' := #[.val (.int p1), .val (.long q1), .second, .val (.int (1 : Int32)), .unset, .unset, .unset]) rfl ?_
      show Steps p.tables e below (s₁.setTop (mkF m 8 #[.val (.int p1), .val (.long q1), .second, .val (.int (1 : Int32)), .unset, .unset, .unset] [])) _
      refine XS.iloadN X0.here hx rfl (hb hby at_8) rfl ?_
      show Steps p.tables e below (s₁.setTop (mkF m 9 #[.val (.int p1), .val (.long q1), .second, .val (.int (1 : Int32)), .unset, .unset, .unset] [(.int (1 : Int32))])) _
      refine st3 _ ?_
      show Steps p.tables e below (T3.setTop (mkF m 11 #[.val (.int p1), .val (.long q1), .second, .val (.int (1 : Int32)), .unset, .unset, .unset] [(.ref b3)])) _
      refine XS.astore X3.here hx rfl (hb hby at_11) rfl rfl (l' := #[.val (.int p1), .val (.long q1), .second, .val (.int (1 : Int32)), .val (.ref b3), .unset, .unset]) rfl ?_
      show Steps p.tables e below (T3.setTop (mkF m 13 #[.val (.int p1), .val (.long q1), .second, .val (.int (1 : Int32)), .val (.ref b3), .unset, .unset] [])) _
      refine XS.iconst X3.here hx rfl (hb hby at_13) ?_
      show Steps p.tables e below (T3.setTop (mkF m 14 #[.val (.int p1), .val (.long q1), .second, .val (.int (1 : Int32)), .val (.ref b3), .unset, .unset] [(.int (0 : Int32))])) _
      refine XS.istore X3.here hx rfl (hb hby at_14) rfl (l' := #[.val (.int p1), .val (.long q1), .second, .val (.int (1 : Int32)), .val (.ref b3), .val (.int (0 : Int32)), .unset]) rfl ?_
      show Steps p.tables e below (T3.setTop (mkF m 16 #[.val (.int p1), .val (.long q1), .second, .val (.int (1 : Int32)), .val (.ref b3), .val (.int (0 : Int32)), .unset] [])) _
      refine XS.iloadN X3.here hx rfl (hb hby at_16) rfl ?_
      show Steps p.tables e below (T3.setTop (mkF m 17 #[.val (.int p1), .val (.long q1), .second, .val (.int (1 : Int32)), .val (.ref b3), .val (.int (0 : Int32)), .unset] [(.int (1 : Int32))])) _
      refine XS.ifNo X3.here hx rfl (hb hby at_17) rfl ((if0 _ _).trans (tlt (by decide : (0 : Int32) < (1 : Int32))).2.2.2) ?_
      show Steps p.tables e below (T3.setTop (mkF m 20 #[.val (.int p1), .val (.long q1), .second, .val (.int (1 : Int32)), .val (.ref b3), .val (.int (0 : Int32)), .unset] [])) _
      refine XS.aload X3.here hx rfl (hb hby at_20) rfl rfl ?_
      show Steps p.tables e below (T3.setTop (mkF m 22 #[.val (.int p1), .val (.long q1), .second, .val (.int (1 : Int32)), .val (.ref b3), .val (.int (0 : Int32)), .unset] [(.ref b3)])) _
      refine XS.iconst X3.here hx rfl (hb hby at_22) ?_
      show Steps p.tables e below (T3.setTop (mkF m 23 #[.val (.int p1), .val (.long q1), .second, .val (.int (1 : Int32)), .val (.ref b3), .val (.int (0 : Int32)), .unset] [(.int (0 : Int32)), (.ref b3)])) _
      refine XS.lloadN X3.here hx rfl (hb hby at_23) rfl ?_
      show Steps p.tables e below (T3.setTop (mkF m 24 #[.val (.int p1), .val (.long q1), .second, .val (.int (1 : Int32)), .val (.ref b3), .val (.int (0 : Int32)), .unset] [(.long q1), (.int (0 : Int32)), (.ref b3)])) _
      refine XS.iconst X3.here hx rfl (hb hby at_24) ?_
      show Steps p.tables e below (T3.setTop (mkF m 25 #[.val (.int p1), .val (.long q1), .second, .val (.int (1 : Int32)), .val (.ref b3), .val (.int (0 : Int32)), .unset] [(.int (0 : Int32)), (.long q1), (.int (0 : Int32)), (.ref b3)])) _
      refine st4 _ ?_
      show Steps p.tables e below (T4.setTop (mkF m 28 #[.val (.int p1), .val (.long q1), .second, .val (.int (1 : Int32)), .val (.ref b3), .val (.int (0 : Int32)), .unset] [(.int (own_at q1 (0 : Int32))), (.int (0 : Int32)), (.ref b3)])) _
      refine st6 _ ?_
      show Steps p.tables e below (T6.setTop (mkF m 29 #[.val (.int p1), .val (.long q1), .second, .val (.int (1 : Int32)), .val (.ref b3), .val (.int (0 : Int32)), .unset] [])) _
      refine XS.iload X6.here hx rfl (hb hby at_29) rfl ?_
      show Steps p.tables e below (T6.setTop (mkF m 31 #[.val (.int p1), .val (.long q1), .second, .val (.int (1 : Int32)), .val (.ref b3), .val (.int (0 : Int32)), .unset] [(.int (0 : Int32))])) _
      refine XS.lloadN X6.here hx rfl (hb hby at_31) rfl ?_
      show Steps p.tables e below (T6.setTop (mkF m 32 #[.val (.int p1), .val (.long q1), .second, .val (.int (1 : Int32)), .val (.ref b3), .val (.int (0 : Int32)), .unset] [(.long q1), (.int (0 : Int32))])) _
      refine XS.iconst X6.here hx rfl (hb hby at_32) ?_
      show Steps p.tables e below (T6.setTop (mkF m 33 #[.val (.int p1), .val (.long q1), .second, .val (.int (1 : Int32)), .val (.ref b3), .val (.int (0 : Int32)), .unset] [(.int (0 : Int32)), (.long q1), (.int (0 : Int32))])) _
      refine st7 _ ?_
      show Steps p.tables e below (T7.setTop (mkF m 36 #[.val (.int p1), .val (.long q1), .second, .val (.int (1 : Int32)), .val (.ref b3), .val (.int (0 : Int32)), .unset] [(.int (own_at q1 (0 : Int32))), (.int (0 : Int32))])) _
      refine XS.iadd X7.here hx rfl (hb hby at_36) rfl ?_
      show Steps p.tables e below (T7.setTop (mkF m 37 #[.val (.int p1), .val (.long q1), .second, .val (.int (1 : Int32)), .val (.ref b3), .val (.int (0 : Int32)), .unset] [(.int ((0 : Int32) + (own_at q1 (0 : Int32))))])) _
      refine XS.istore X7.here hx rfl (hb hby at_37) rfl (l' := #[.val (.int p1), .val (.long q1), .second, .val (.int (1 : Int32)), .val (.ref b3), .val (.int ((0 : Int32) + (own_at q1 (0 : Int32)))), .unset]) rfl ?_
      show Steps p.tables e below (T7.setTop (mkF m 39 #[.val (.int p1), .val (.long q1), .second, .val (.int (1 : Int32)), .val (.ref b3), .val (.int ((0 : Int32) + (own_at q1 (0 : Int32)))), .unset] [])) _
      refine XS.iloadN X7.here hx rfl (hb hby at_39) rfl ?_
      show Steps p.tables e below (T7.setTop (mkF m 40 #[.val (.int p1), .val (.long q1), .second, .val (.int (1 : Int32)), .val (.ref b3), .val (.int ((0 : Int32) + (own_at q1 (0 : Int32)))), .unset] [(.int (1 : Int32))])) _
      refine XS.iconst X7.here hx rfl (hb hby at_40) ?_
      show Steps p.tables e below (T7.setTop (mkF m 41 #[.val (.int p1), .val (.long q1), .second, .val (.int (1 : Int32)), .val (.ref b3), .val (.int ((0 : Int32) + (own_at q1 (0 : Int32)))), .unset] [(.int (1 : Int32)), (.int (1 : Int32))])) _
      refine XS.icmpYes X7.here hx rfl (pc0 := 41) (pc' := 63) rfl (hb hby at_41) rfl (flt (by decide : ¬ ((1 : Int32) < (1 : Int32)))).2.2.2 (by decide) (by decide) ?_
      show Steps p.tables e below (T7.setTop (mkF m 63 #[.val (.int p1), .val (.long q1), .second, .val (.int (1 : Int32)), .val (.ref b3), .val (.int ((0 : Int32) + (own_at q1 (0 : Int32)))), .unset] [])) _
      refine XS.iloadN X7.here hx rfl (hb hby at_63) rfl ?_
      show Steps p.tables e below (T7.setTop (mkF m 64 #[.val (.int p1), .val (.long q1), .second, .val (.int (1 : Int32)), .val (.ref b3), .val (.int ((0 : Int32) + (own_at q1 (0 : Int32)))), .unset] [(.int (1 : Int32))])) _
      refine XS.iconst X7.here hx rfl (hb hby at_64) ?_
      show Steps p.tables e below (T7.setTop (mkF m 65 #[.val (.int p1), .val (.long q1), .second, .val (.int (1 : Int32)), .val (.ref b3), .val (.int ((0 : Int32) + (own_at q1 (0 : Int32)))), .unset] [(.int (2 : Int32)), (.int (1 : Int32))])) _
      refine XS.icmpYes X7.here hx rfl (pc0 := 65) (pc' := 87) rfl (hb hby at_65) rfl (flt (by decide : ¬ ((2 : Int32) < (1 : Int32)))).2.2.2 (by decide) (by decide) ?_
      show Steps p.tables e below (T7.setTop (mkF m 87 #[.val (.int p1), .val (.long q1), .second, .val (.int (1 : Int32)), .val (.ref b3), .val (.int ((0 : Int32) + (own_at q1 (0 : Int32)))), .unset] [])) _
      refine XS.iloadN X7.here hx rfl (hb hby at_87) rfl ?_
      show Steps p.tables e below (T7.setTop (mkF m 88 #[.val (.int p1), .val (.long q1), .second, .val (.int (1 : Int32)), .val (.ref b3), .val (.int ((0 : Int32) + (own_at q1 (0 : Int32)))), .unset] [(.int (1 : Int32))])) _
      refine XS.iconst X7.here hx rfl (hb hby at_88) ?_
      show Steps p.tables e below (T7.setTop (mkF m 89 #[.val (.int p1), .val (.long q1), .second, .val (.int (1 : Int32)), .val (.ref b3), .val (.int ((0 : Int32) + (own_at q1 (0 : Int32)))), .unset] [(.int (3 : Int32)), (.int (1 : Int32))])) _
      refine XS.icmpYes X7.here hx rfl (pc0 := 89) (pc' := 111) rfl (hb hby at_89) rfl (flt (by decide : ¬ ((3 : Int32) < (1 : Int32)))).2.2.2 (by decide) (by decide) ?_
      show Steps p.tables e below (T7.setTop (mkF m 111 #[.val (.int p1), .val (.long q1), .second, .val (.int (1 : Int32)), .val (.ref b3), .val (.int ((0 : Int32) + (own_at q1 (0 : Int32)))), .unset] [])) _
      refine XS.iloadN X7.here hx rfl (hb hby at_111) rfl ?_
      show Steps p.tables e below (T7.setTop (mkF m 112 #[.val (.int p1), .val (.long q1), .second, .val (.int (1 : Int32)), .val (.ref b3), .val (.int ((0 : Int32) + (own_at q1 (0 : Int32)))), .unset] [(.int (1 : Int32))])) _
      refine XS.iconst X7.here hx rfl (hb hby at_112) ?_
      show Steps p.tables e below (T7.setTop (mkF m 113 #[.val (.int p1), .val (.long q1), .second, .val (.int (1 : Int32)), .val (.ref b3), .val (.int ((0 : Int32) + (own_at q1 (0 : Int32)))), .unset] [(.int (4 : Int32)), (.int (1 : Int32))])) _
      refine XS.icmpYes X7.here hx rfl (pc0 := 113) (pc' := 135) rfl (hb hby at_113) rfl (flt (by decide : ¬ ((4 : Int32) < (1 : Int32)))).2.2.2 (by decide) (by decide) ?_
      show Steps p.tables e below (T7.setTop (mkF m 135 #[.val (.int p1), .val (.long q1), .second, .val (.int (1 : Int32)), .val (.ref b3), .val (.int ((0 : Int32) + (own_at q1 (0 : Int32)))), .unset] [])) _
      refine XS.iloadN X7.here hx rfl (hb hby at_135) rfl ?_
      show Steps p.tables e below (T7.setTop (mkF m 136 #[.val (.int p1), .val (.long q1), .second, .val (.int (1 : Int32)), .val (.ref b3), .val (.int ((0 : Int32) + (own_at q1 (0 : Int32)))), .unset] [(.int (1 : Int32))])) _
      refine XS.iconst X7.here hx rfl (hb hby at_136) ?_
      show Steps p.tables e below (T7.setTop (mkF m 137 #[.val (.int p1), .val (.long q1), .second, .val (.int (1 : Int32)), .val (.ref b3), .val (.int ((0 : Int32) + (own_at q1 (0 : Int32)))), .unset] [(.int (5 : Int32)), (.int (1 : Int32))])) _
      refine XS.icmpYes X7.here hx rfl (pc0 := 137) (pc' := 159) rfl (hb hby at_137) rfl (flt (by decide : ¬ ((5 : Int32) < (1 : Int32)))).2.2.2 (by decide) (by decide) ?_
      show Steps p.tables e below (T7.setTop (mkF m 159 #[.val (.int p1), .val (.long q1), .second, .val (.int (1 : Int32)), .val (.ref b3), .val (.int ((0 : Int32) + (own_at q1 (0 : Int32)))), .unset] [])) _
      refine XS.iloadN X7.here hx rfl (hb hby at_159) rfl ?_
      show Steps p.tables e below (T7.setTop (mkF m 160 #[.val (.int p1), .val (.long q1), .second, .val (.int (1 : Int32)), .val (.ref b3), .val (.int ((0 : Int32) + (own_at q1 (0 : Int32)))), .unset] [(.int (1 : Int32))])) _
      refine XS.bipush X7.here hx rfl (hb hby at_160) ?_
      show Steps p.tables e below (T7.setTop (mkF m 162 #[.val (.int p1), .val (.long q1), .second, .val (.int (1 : Int32)), .val (.ref b3), .val (.int ((0 : Int32) + (own_at q1 (0 : Int32)))), .unset] [(.int (6 : Int32)), (.int (1 : Int32))])) _
      refine XS.icmpYes X7.here hx rfl (pc0 := 162) (pc' := 187) rfl (hb hby at_162) rfl (flt (by decide : ¬ ((6 : Int32) < (1 : Int32)))).2.2.2 (by decide) (by decide) ?_
      show Steps p.tables e below (T7.setTop (mkF m 187 #[.val (.int p1), .val (.long q1), .second, .val (.int (1 : Int32)), .val (.ref b3), .val (.int ((0 : Int32) + (own_at q1 (0 : Int32)))), .unset] [])) _
      refine XS.iloadN X7.here hx rfl (hb hby at_187) rfl ?_
      show Steps p.tables e below (T7.setTop (mkF m 188 #[.val (.int p1), .val (.long q1), .second, .val (.int (1 : Int32)), .val (.ref b3), .val (.int ((0 : Int32) + (own_at q1 (0 : Int32)))), .unset] [(.int (1 : Int32))])) _
      refine XS.bipush X7.here hx rfl (hb hby at_188) ?_
      show Steps p.tables e below (T7.setTop (mkF m 190 #[.val (.int p1), .val (.long q1), .second, .val (.int (1 : Int32)), .val (.ref b3), .val (.int ((0 : Int32) + (own_at q1 (0 : Int32)))), .unset] [(.int (7 : Int32)), (.int (1 : Int32))])) _
      refine XS.icmpYes X7.here hx rfl (pc0 := 190) (pc' := 215) rfl (hb hby at_190) rfl (flt (by decide : ¬ ((7 : Int32) < (1 : Int32)))).2.2.2 (by decide) (by decide) ?_
      show Steps p.tables e below (T7.setTop (mkF m 215 #[.val (.int p1), .val (.long q1), .second, .val (.int (1 : Int32)), .val (.ref b3), .val (.int ((0 : Int32) + (own_at q1 (0 : Int32)))), .unset] [])) _
      refine XS.aload X7.here hx rfl (hb hby at_215) rfl rfl ?_
      show Steps p.tables e below (T7.setTop (mkF m 217 #[.val (.int p1), .val (.long q1), .second, .val (.int (1 : Int32)), .val (.ref b3), .val (.int ((0 : Int32) + (own_at q1 (0 : Int32)))), .unset] [(.ref b3)])) _
      refine st8 _ ?_
      show Steps p.tables e below (T8.setTop (mkF m 220 #[.val (.int p1), .val (.long q1), .second, .val (.int (1 : Int32)), .val (.ref b3), .val (.int ((0 : Int32) + (own_at q1 (0 : Int32)))), .unset] [(.int (own_cs [(own_at q1 (0 : Int32))]))])) _
      refine XS.istore X8.here hx rfl (hb hby at_220) rfl (l' := #[.val (.int p1), .val (.long q1), .second, .val (.int (1 : Int32)), .val (.ref b3), .val (.int ((0 : Int32) + (own_at q1 (0 : Int32)))), .val (.int (own_cs [(own_at q1 (0 : Int32))]))]) rfl ?_
      show Steps p.tables e below (T8.setTop (mkF m 222 #[.val (.int p1), .val (.long q1), .second, .val (.int (1 : Int32)), .val (.ref b3), .val (.int ((0 : Int32) + (own_at q1 (0 : Int32)))), .val (.int (own_cs [(own_at q1 (0 : Int32))]))] [])) _
      refine XS.iload X8.here hx rfl (hb hby at_222) rfl ?_
      show Steps p.tables e below (T8.setTop (mkF m 224 #[.val (.int p1), .val (.long q1), .second, .val (.int (1 : Int32)), .val (.ref b3), .val (.int ((0 : Int32) + (own_at q1 (0 : Int32)))), .val (.int (own_cs [(own_at q1 (0 : Int32))]))] [(.int (own_cs [(own_at q1 (0 : Int32))]))])) _
      refine XS.iload X8.here hx rfl (hb hby at_224) rfl ?_
      show Steps p.tables e below (T8.setTop (mkF m 226 #[.val (.int p1), .val (.long q1), .second, .val (.int (1 : Int32)), .val (.ref b3), .val (.int ((0 : Int32) + (own_at q1 (0 : Int32)))), .val (.int (own_cs [(own_at q1 (0 : Int32))]))] [(.int ((0 : Int32) + (own_at q1 (0 : Int32)))), (.int (own_cs [(own_at q1 (0 : Int32))]))])) _
      refine XS.sipush X8.here hx rfl (hb hby at_226) ?_
      show Steps p.tables e below (T8.setTop (mkF m 229 #[.val (.int p1), .val (.long q1), .second, .val (.int (1 : Int32)), .val (.ref b3), .val (.int ((0 : Int32) + (own_at q1 (0 : Int32)))), .val (.int (own_cs [(own_at q1 (0 : Int32))]))] [(.int (255 : Int32)), (.int ((0 : Int32) + (own_at q1 (0 : Int32)))), (.int (own_cs [(own_at q1 (0 : Int32))]))])) _
      refine XS.iand X8.here hx rfl (hb hby at_229) rfl ?_
      show Steps p.tables e below (T8.setTop (mkF m 230 #[.val (.int p1), .val (.long q1), .second, .val (.int (1 : Int32)), .val (.ref b3), .val (.int ((0 : Int32) + (own_at q1 (0 : Int32)))), .val (.int (own_cs [(own_at q1 (0 : Int32))]))] [(.int (((0 : Int32) + (own_at q1 (0 : Int32))) &&& (255 : Int32))), (.int (own_cs [(own_at q1 (0 : Int32))]))])) _
      refine XS.icmpNo X8.here hx rfl (hb hby at_230) rfl (teq (own_key [(own_at q1 (0 : Int32))] : (own_cs [(own_at q1 (0 : Int32))]) = (((0 : Int32) + (own_at q1 (0 : Int32))) &&& (255 : Int32)))).2 ?_
      show Steps p.tables e below (T8.setTop (mkF m 233 #[.val (.int p1), .val (.long q1), .second, .val (.int (1 : Int32)), .val (.ref b3), .val (.int ((0 : Int32) + (own_at q1 (0 : Int32)))), .val (.int (own_cs [(own_at q1 (0 : Int32))]))] [])) _
      refine XS.iconst X8.here hx rfl (hb hby at_233) ?_
      show Steps p.tables e below (T8.setTop (mkF m 234 #[.val (.int p1), .val (.long q1), .second, .val (.int (1 : Int32)), .val (.ref b3), .val (.int ((0 : Int32) + (own_at q1 (0 : Int32)))), .val (.int (own_cs [(own_at q1 (0 : Int32))]))] [(.int (1 : Int32))])) _
      refine XS.goto X8.here hx rfl (pc0 := 234) (pc' := 238) rfl (hb hby at_234) (by decide) (by decide) ?_
      show Steps p.tables e below (T8.setTop (mkF m 238 #[.val (.int p1), .val (.long q1), .second, .val (.int (1 : Int32)), .val (.ref b3), .val (.int ((0 : Int32) + (own_at q1 (0 : Int32)))), .val (.int (own_cs [(own_at q1 (0 : Int32))]))] [(.int (1 : Int32))])) _
      exact retN X8 hx (t := .boolean) Bd.returns (by simp) (hb hby at_238) hr
    · show Qown_law Z p1 q1 h0 n0 _ T8.heap _
      rw [e8]
      exact ⟨rfl, N8⟩
  · obtain ⟨T9, h9, k9, X9, e9, E9, A9, st9⟩ := newP X0 hx hZ (hw _ (List.mem_of_getElem? (i := 1) rfl)) e0 (g := (mkF m 9 #[.val (.int p1), .val (.long q1), .second, .val (.int (2 : Int32)), .unset, .unset, .unset] [(.int (2 : Int32))])) rfl (hb hby at_9) rfl (by decide) (cap := 2) (by decide) (by decide) (by decide) (by decide)
    obtain ⟨b9, g9⟩ : ∃ z, z = h0.size := ⟨_, rfl⟩
    rw [← g9] at A9 st9
    have V9 : Arv Z h9 b9 k9 .byte (2 : Int32) [(.int (0 : Int32)), (.int (0 : Int32))] (.int (0 : Int32)) := (Arv.new A9 (by decide)).pad (pad_rep [] (.int (0 : Int32)) 2)
    have g_b9 : n0 ≤ b9 := Nat.le_trans Z0 (Nat.le_of_eq g9.symm)
    have sz_b9 : h0.size ≤ b9 := Nat.le_trans (Keep.refl h0 []).1 (Nat.le_of_eq g9.symm)
    have Z9 : n0 ≤ h9.size := Nat.le_trans Z0 E9.1
    have K9 : Keep h0 h9 [] := (Keep.refl h0 []).ext E9
    obtain ⟨_, _, ⟨T10, L10, k10, n10⟩, -, X10, ⟨Lc10, hQ10, l10, y10, z10⟩, st10⟩ := Jvm.LawKit.callS X9 hx (y := (⟨"com/example/assaybus/assaybus/link/FrameChecksumPinLaw", "at", "(JI)B"⟩ : MethodName)) hown (mvT hZ (hw _ (List.mem_of_getElem? (i := 6) rfl))) (mvT hZ (hw _ (List.mem_of_getElem? (i := 7) rfl))) (mvT hZ (hw _ (List.mem_of_getElem? (i := 8) rfl))) (mvT hZ (hw _ (List.mem_of_getElem? (i := 9) rfl))) (by decide) (backOf (W := 2) (own_mat l Z a0 hw [] q1 (0 : Int32)  h9 n0 Z9 ) hZ (hw _ (List.mem_of_getElem? (i := 9) rfl)) (hw _ (List.mem_of_getElem? (i := 8) rfl)) (by decide) (by decide)) (g := (mkF m 25 #[.val (.int p1), .val (.long q1), .second, .val (.int (2 : Int32)), .val (.ref b9), .val (.int (0 : Int32)), .unset] [(.int (0 : Int32)), (.long q1), (.int (0 : Int32)), (.ref b9)])) rfl (by rw [hml]; rfl) (argsL := [(.long q1), (.int (0 : Int32))]) (rest := [(.int (0 : Int32)), (.ref b9)]) (lenOf pd__JI_B rfl) rfl (by show 2 * 0 + _ ≤ _; exact Nat.le_of_eq rfl) (hb hby at_25) (fun _ _ => ⟨rfl, e9, (by decide : 1 + 0 ≤ _), (by decide : 2 + 0 ≤ _)⟩)
    dsimp only [Pt.U, Pt.locs, Pt.cells, Pt.slots] at X10 l10 y10 z10 st10 hQ10
    replace X10 := X10.more (Nat.le_of_eq (show k10 = 1 from y10)) (Nat.le_of_eq (show n10 = 2 from z10))
    obtain ⟨rfl, Nq10, e10⟩ := hQ10
    have N10 : Fr n0 L10 := by rw [l10]; exact Fr.app N0 Nq10
    obtain ⟨cl11, Ar11, qc11, S11, Nn11, H11, G11⟩ := id V9
    have hin11 : ¬ ((0 : Int32) < 0 ∨ cl11.slots.size ≤ ((0 : Int32)).toNatClampNeg) := inb_of S11 ⟨by decide, by decide⟩
    obtain ⟨T12, h12, X12, e12, W12, st12⟩ := stB X10 hx hZ e10 Ar11 (j := (0 : Int32)) hin11 (g := (mkF m 28 #[.val (.int p1), .val (.long q1), .second, .val (.int (2 : Int32)), .val (.ref b9), .val (.int (0 : Int32)), .unset] [(.int (own_at q1 (0 : Int32))), (.int (0 : Int32)), (.ref b9)])) rfl rfl (hb hby at_28)
    have V12 : Arv Z h12 b9 k9 .byte (2 : Int32) [(.int (nar .byte (own_at q1 (0 : Int32)))), (.int (0 : Int32))] (.int (0 : Int32)) := Arv.set Ar11 qc11 S11 Nn11 H11 G11 (fits_nar_byte _) W12 0 rfl (Nat.le_of_ble_eq_true rfl)
    have V12v : Arv Z h12 b9 k9 .byte (2 : Int32) [(.int (own_at q1 (0 : Int32))), (.int (0 : Int32))] (.int (0 : Int32)) := by have q := V12; rw [own_nara] at q; exact q
    have K12 : Keep h0 h12 [] := K9.wr W12 (Or.inr sz_b9)
    have N12 := Fr.snoc X12 N10 g_b9
    have Z12 : n0 ≤ h12.size := Nat.le_trans Z9 (Keep.of_wr W12).1
    obtain ⟨_, _, ⟨T13, L13, k13, n13⟩, -, X13, ⟨Lc13, hQ13, l13, y13, z13⟩, st13⟩ := Jvm.LawKit.callS X12 hx (y := (⟨"com/example/assaybus/assaybus/link/FrameChecksumPinLaw", "at", "(JI)B"⟩ : MethodName)) hown (mvT hZ (hw _ (List.mem_of_getElem? (i := 6) rfl))) (mvT hZ (hw _ (List.mem_of_getElem? (i := 7) rfl))) (mvT hZ (hw _ (List.mem_of_getElem? (i := 8) rfl))) (mvT hZ (hw _ (List.mem_of_getElem? (i := 9) rfl))) (by decide) (backOf (W := 1) (own_mat l Z a0 hw [] q1 (0 : Int32)  h12 n0 Z12 ) hZ (hw _ (List.mem_of_getElem? (i := 9) rfl)) (hw _ (List.mem_of_getElem? (i := 8) rfl)) (by decide) (by decide)) (g := (mkF m 33 #[.val (.int p1), .val (.long q1), .second, .val (.int (2 : Int32)), .val (.ref b9), .val (.int (0 : Int32)), .unset] [(.int (0 : Int32)), (.long q1), (.int (0 : Int32))])) rfl (by rw [hml]; rfl) (argsL := [(.long q1), (.int (0 : Int32))]) (rest := [(.int (0 : Int32))]) (lenOf pd__JI_B rfl) rfl (by show 2 * 0 + _ ≤ _; exact Nat.le_of_eq rfl) (hb hby at_33) (fun _ _ => ⟨rfl, e12, (by decide : 1 + 0 ≤ _), (by decide : 2 + 0 ≤ _)⟩)
    dsimp only [Pt.U, Pt.locs, Pt.cells, Pt.slots] at X13 l13 y13 z13 st13 hQ13
    replace X13 := X13.more (Nat.le_of_eq (show k13 = 1 from y13)) (Nat.le_of_eq (show n13 = 2 from z13))
    obtain ⟨rfl, Nq13, e13⟩ := hQ13
    have N13 : Fr n0 L13 := by rw [l13]; exact Fr.app N12 Nq13
    obtain ⟨_, _, ⟨T14, L14, k14, n14⟩, -, X14, ⟨Lc14, hQ14, l14, y14, z14⟩, st14⟩ := Jvm.LawKit.callS X13 hx (y := (⟨"com/example/assaybus/assaybus/link/FrameChecksumPinLaw", "at", "(JI)B"⟩ : MethodName)) hown (mvT hZ (hw _ (List.mem_of_getElem? (i := 6) rfl))) (mvT hZ (hw _ (List.mem_of_getElem? (i := 7) rfl))) (mvT hZ (hw _ (List.mem_of_getElem? (i := 8) rfl))) (mvT hZ (hw _ (List.mem_of_getElem? (i := 9) rfl))) (by decide) (backOf (W := 2) (own_mat l Z a0 hw [] q1 (1 : Int32)  h12 n0 Z12 ) hZ (hw _ (List.mem_of_getElem? (i := 9) rfl)) (hw _ (List.mem_of_getElem? (i := 8) rfl)) (by decide) (by decide)) (g := (mkF m 49 #[.val (.int p1), .val (.long q1), .second, .val (.int (2 : Int32)), .val (.ref b9), .val (.int ((0 : Int32) + (own_at q1 (0 : Int32)))), .unset] [(.int (1 : Int32)), (.long q1), (.int (1 : Int32)), (.ref b9)])) rfl (by rw [hml]; rfl) (argsL := [(.long q1), (.int (1 : Int32))]) (rest := [(.int (1 : Int32)), (.ref b9)]) (lenOf pd__JI_B rfl) rfl (by show 2 * 0 + _ ≤ _; exact Nat.le_of_eq rfl) (hb hby at_49) (fun _ _ => ⟨rfl, e13, (by decide : 1 + 0 ≤ _), (by decide : 2 + 0 ≤ _)⟩)
    dsimp only [Pt.U, Pt.locs, Pt.cells, Pt.slots] at X14 l14 y14 z14 st14 hQ14
    replace X14 := X14.more (Nat.le_of_eq (show k14 = 1 from y14)) (Nat.le_of_eq (show n14 = 2 from z14))
    obtain ⟨rfl, Nq14, e14⟩ := hQ14
    have N14 : Fr n0 L14 := by rw [l14]; exact Fr.app N13 Nq14
    obtain ⟨cl15, Ar15, qc15, S15, Nn15, H15, G15⟩ := id V12v
    have hin15 : ¬ ((1 : Int32) < 0 ∨ cl15.slots.size ≤ ((1 : Int32)).toNatClampNeg) := inb_of S15 ⟨by decide, by decide⟩
    obtain ⟨T16, h16, X16, e16, W16, st16⟩ := stB X14 hx hZ e14 Ar15 (j := (1 : Int32)) hin15 (g := (mkF m 52 #[.val (.int p1), .val (.long q1), .second, .val (.int (2 : Int32)), .val (.ref b9), .val (.int ((0 : Int32) + (own_at q1 (0 : Int32)))), .unset] [(.int (own_at q1 (1 : Int32))), (.int (1 : Int32)), (.ref b9)])) rfl rfl (hb hby at_52)
    have V16 : Arv Z h16 b9 k9 .byte (2 : Int32) [(.int (own_at q1 (0 : Int32))), (.int (nar .byte (own_at q1 (1 : Int32))))] (.int (0 : Int32)) := Arv.set Ar15 qc15 S15 Nn15 H15 G15 (fits_nar_byte _) W16 1 rfl (Nat.le_of_ble_eq_true rfl)
    have V16v : Arv Z h16 b9 k9 .byte (2 : Int32) [(.int (own_at q1 (0 : Int32))), (.int (own_at q1 (1 : Int32)))] (.int (0 : Int32)) := by have q := V16; rw [own_nara] at q; exact q
    have K16 : Keep h0 h16 [] := K12.wr W16 (Or.inr sz_b9)
    have N16 := Fr.snoc X16 N14 g_b9
    have Z16 : n0 ≤ h16.size := Nat.le_trans Z12 (Keep.of_wr W16).1
    obtain ⟨_, _, ⟨T17, L17, k17, n17⟩, -, X17, ⟨Lc17, hQ17, l17, y17, z17⟩, st17⟩ := Jvm.LawKit.callS X16 hx (y := (⟨"com/example/assaybus/assaybus/link/FrameChecksumPinLaw", "at", "(JI)B"⟩ : MethodName)) hown (mvT hZ (hw _ (List.mem_of_getElem? (i := 6) rfl))) (mvT hZ (hw _ (List.mem_of_getElem? (i := 7) rfl))) (mvT hZ (hw _ (List.mem_of_getElem? (i := 8) rfl))) (mvT hZ (hw _ (List.mem_of_getElem? (i := 9) rfl))) (by decide) (backOf (W := 1) (own_mat l Z a0 hw [] q1 (1 : Int32)  h16 n0 Z16 ) hZ (hw _ (List.mem_of_getElem? (i := 9) rfl)) (hw _ (List.mem_of_getElem? (i := 8) rfl)) (by decide) (by decide)) (g := (mkF m 57 #[.val (.int p1), .val (.long q1), .second, .val (.int (2 : Int32)), .val (.ref b9), .val (.int ((0 : Int32) + (own_at q1 (0 : Int32)))), .unset] [(.int (1 : Int32)), (.long q1), (.int ((0 : Int32) + (own_at q1 (0 : Int32))))])) rfl (by rw [hml]; rfl) (argsL := [(.long q1), (.int (1 : Int32))]) (rest := [(.int ((0 : Int32) + (own_at q1 (0 : Int32))))]) (lenOf pd__JI_B rfl) rfl (by show 2 * 0 + _ ≤ _; exact Nat.le_of_eq rfl) (hb hby at_57) (fun _ _ => ⟨rfl, e16, (by decide : 1 + 0 ≤ _), (by decide : 2 + 0 ≤ _)⟩)
    dsimp only [Pt.U, Pt.locs, Pt.cells, Pt.slots] at X17 l17 y17 z17 st17 hQ17
    replace X17 := X17.more (Nat.le_of_eq (show k17 = 1 from y17)) (Nat.le_of_eq (show n17 = 2 from z17))
    obtain ⟨rfl, Nq17, e17⟩ := hQ17
    have N17 : Fr n0 L17 := by rw [l17]; exact Fr.app N16 Nq17
    obtain ⟨_, _, ⟨T18, L18, k18, n18⟩, -, X18, ⟨Lc18, hQ18, l18, y18, z18⟩, st18⟩ := Jvm.LawKit.callS X17 hx (y := (⟨"com/example/assaybus/assaybus/link/Frame", "checksum", "([B)I"⟩ : MethodName)) hown (mvT hZ (hw _ (List.mem_of_getElem? (i := 2) rfl))) (mvT hZ (hw _ (List.mem_of_getElem? (i := 3) rfl))) (mvT hZ (hw _ (List.mem_of_getElem? (i := 4) rfl))) (mvT hZ (hw _ (List.mem_of_getElem? (i := 5) rfl))) (by decide) (backOf (W := 0) (own_sumof l Z a0 hw [] b9 k9 (2 : Int32) [(own_at q1 (0 : Int32)), (own_at q1 (1 : Int32))] h16 n0 Z16 V16v rfl) hZ (hw _ (List.mem_of_getElem? (i := 5) rfl)) (hw _ (List.mem_of_getElem? (i := 4) rfl)) (by decide) (by decide)) (g := (mkF m 217 #[.val (.int p1), .val (.long q1), .second, .val (.int (2 : Int32)), .val (.ref b9), .val (.int (((0 : Int32) + (own_at q1 (0 : Int32))) + (own_at q1 (1 : Int32)))), .unset] [(.ref b9)])) rfl (by rw [hml]; rfl) (argsL := [(.ref b9)]) (rest := []) (lenOf pd___B_I rfl) rfl (by show 2 * 0 + _ ≤ _; exact Nat.le_of_eq rfl) (hb hby at_217) (fun _ _ => ⟨rfl, e17, (by decide : 1 + 0 ≤ _), (by decide : 2 + 0 ≤ _)⟩)
    dsimp only [Pt.U, Pt.locs, Pt.cells, Pt.slots] at X18 l18 y18 z18 st18 hQ18
    replace X18 := X18.more (Nat.le_of_eq (show k18 = 1 from y18)) (Nat.le_of_eq (show n18 = 2 from z18))
    obtain ⟨rfl, Nq18, e18⟩ := hQ18
    have N18 : Fr n0 L18 := by rw [l18]; exact Fr.app N17 Nq18
    obtain ⟨fs, hr, hrun, hended, hW, hsame⟩ := X18.leave (v := some (.int (1 : Int32))) (fun h => by rw [Bd.returns] at h; cases h)
    refine ⟨_, _, pre0 _ ?_, hrun, hended, _, _, rfl, ?_, ⟨_, rfl⟩, hW, hsame.mono (by decide) (by decide)⟩
    · show Steps p.tables e below (s₁.setTop (mkF m 0 #[.val (.int p1), .val (.long q1), .second, .unset, .unset, .unset, .unset] [])) _
      refine XS.iloadN X0.here hx rfl (hb hby at_0) rfl ?_
      show Steps p.tables e below (s₁.setTop (mkF m 1 #[.val (.int p1), .val (.long q1), .second, .unset, .unset, .unset, .unset] [(.int p1)])) _
      refine X0.ldcInt hx hown (mvT hZ (hw _ (List.mem_of_getElem? (i := 0) rfl))) (g := (mkF m 1 #[.val (.int p1), .val (.long q1), .second, .unset, .unset, .unset, .unset] [(.int p1)])) rfl (hb hby at_1) _ ?_
      show Steps p.tables e below (s₁.setTop (mkF m 3 #[.val (.int p1), .val (.long q1), .second, .unset, .unset, .unset, .unset] [(.int (2147483647 : Int32)), (.int p1)])) _
      refine XS.iand X0.here hx rfl (hb hby at_3) rfl ?_
      show Steps p.tables e below (s₁.setTop (mkF m 4 #[.val (.int p1), .val (.long q1), .second, .unset, .unset, .unset, .unset] [(.int (p1 &&& (2147483647 : Int32)))])) _
      refine XS.bipush X0.here hx rfl (hb hby at_4) ?_
      show Steps p.tables e below (s₁.setTop (mkF m 6 #[.val (.int p1), .val (.long q1), .second, .unset, .unset, .unset, .unset] [(.int (9 : Int32)), (.int (p1 &&& (2147483647 : Int32)))])) _
      refine iremM X0 hx rfl (hb hby at_6) rfl (by decide) ?_
      show Steps p.tables e below (s₁.setTop (mkF m 7 #[.val (.int p1), .val (.long q1), .second, .unset, .unset, .unset, .unset] [(.int ((p1 &&& (2147483647 : Int32)) % (9 : Int32)))])) _
      rw [hl]
      show Steps p.tables e below (s₁.setTop (mkF m 7 #[.val (.int p1), .val (.long q1), .second, .unset, .unset, .unset, .unset] [(.int (2 : Int32))])) _
      refine XS.istoreN X0.here hx rfl (hb hby at_7) rfl (l' := #[.val (.int p1), .val (.long q1), .second, .val (.int (2 : Int32)), .unset, .unset, .unset]) rfl ?_
      show Steps p.tables e below (s₁.setTop (mkF m 8 #[.val (.int p1), .val (.long q1), .second, .val (.int (2 : Int32)), .unset, .unset, .unset] [])) _
      refine XS.iloadN X0.here hx rfl (hb hby at_8) rfl ?_
      show Steps p.tables e below (s₁.setTop (mkF m 9 #[.val (.int p1), .val (.long q1), .second, .val (.int (2 : Int32)), .unset, .unset, .unset] [(.int (2 : Int32))])) _
      refine st9 _ ?_
      show Steps p.tables e below (T9.setTop (mkF m 11 #[.val (.int p1), .val (.long q1), .second, .val (.int (2 : Int32)), .unset, .unset, .unset] [(.ref b9)])) _
      refine XS.astore X9.here hx rfl (hb hby at_11) rfl rfl (l' := #[.val (.int p1), .val (.long q1), .second, .val (.int (2 : Int32)), .val (.ref b9), .unset, .unset]) rfl ?_
      show Steps p.tables e below (T9.setTop (mkF m 13 #[.val (.int p1), .val (.long q1), .second, .val (.int (2 : Int32)), .val (.ref b9), .unset, .unset] [])) _
      refine XS.iconst X9.here hx rfl (hb hby at_13) ?_
      show Steps p.tables e below (T9.setTop (mkF m 14 #[.val (.int p1), .val (.long q1), .second, .val (.int (2 : Int32)), .val (.ref b9), .unset, .unset] [(.int (0 : Int32))])) _
      refine XS.istore X9.here hx rfl (hb hby at_14) rfl (l' := #[.val (.int p1), .val (.long q1), .second, .val (.int (2 : Int32)), .val (.ref b9), .val (.int (0 : Int32)), .unset]) rfl ?_
      show Steps p.tables e below (T9.setTop (mkF m 16 #[.val (.int p1), .val (.long q1), .second, .val (.int (2 : Int32)), .val (.ref b9), .val (.int (0 : Int32)), .unset] [])) _
      refine XS.iloadN X9.here hx rfl (hb hby at_16) rfl ?_
      show Steps p.tables e below (T9.setTop (mkF m 17 #[.val (.int p1), .val (.long q1), .second, .val (.int (2 : Int32)), .val (.ref b9), .val (.int (0 : Int32)), .unset] [(.int (2 : Int32))])) _
      refine XS.ifNo X9.here hx rfl (hb hby at_17) rfl ((if0 _ _).trans (tlt (by decide : (0 : Int32) < (2 : Int32))).2.2.2) ?_
      show Steps p.tables e below (T9.setTop (mkF m 20 #[.val (.int p1), .val (.long q1), .second, .val (.int (2 : Int32)), .val (.ref b9), .val (.int (0 : Int32)), .unset] [])) _
      refine XS.aload X9.here hx rfl (hb hby at_20) rfl rfl ?_
      show Steps p.tables e below (T9.setTop (mkF m 22 #[.val (.int p1), .val (.long q1), .second, .val (.int (2 : Int32)), .val (.ref b9), .val (.int (0 : Int32)), .unset] [(.ref b9)])) _
      refine XS.iconst X9.here hx rfl (hb hby at_22) ?_
      show Steps p.tables e below (T9.setTop (mkF m 23 #[.val (.int p1), .val (.long q1), .second, .val (.int (2 : Int32)), .val (.ref b9), .val (.int (0 : Int32)), .unset] [(.int (0 : Int32)), (.ref b9)])) _
      refine XS.lloadN X9.here hx rfl (hb hby at_23) rfl ?_
      show Steps p.tables e below (T9.setTop (mkF m 24 #[.val (.int p1), .val (.long q1), .second, .val (.int (2 : Int32)), .val (.ref b9), .val (.int (0 : Int32)), .unset] [(.long q1), (.int (0 : Int32)), (.ref b9)])) _
      refine XS.iconst X9.here hx rfl (hb hby at_24) ?_
      show Steps p.tables e below (T9.setTop (mkF m 25 #[.val (.int p1), .val (.long q1), .second, .val (.int (2 : Int32)), .val (.ref b9), .val (.int (0 : Int32)), .unset] [(.int (0 : Int32)), (.long q1), (.int (0 : Int32)), (.ref b9)])) _
      refine st10 _ ?_
      show Steps p.tables e below (T10.setTop (mkF m 28 #[.val (.int p1), .val (.long q1), .second, .val (.int (2 : Int32)), .val (.ref b9), .val (.int (0 : Int32)), .unset] [(.int (own_at q1 (0 : Int32))), (.int (0 : Int32)), (.ref b9)])) _
      refine st12 _ ?_
      show Steps p.tables e below (T12.setTop (mkF m 29 #[.val (.int p1), .val (.long q1), .second, .val (.int (2 : Int32)), .val (.ref b9), .val (.int (0 : Int32)), .unset] [])) _
      refine XS.iload X12.here hx rfl (hb hby at_29) rfl ?_
      show Steps p.tables e below (T12.setTop (mkF m 31 #[.val (.int p1), .val (.long q1), .second, .val (.int (2 : Int32)), .val (.ref b9), .val (.int (0 : Int32)), .unset] [(.int (0 : Int32))])) _
      refine XS.lloadN X12.here hx rfl (hb hby at_31) rfl ?_
      show Steps p.tables e below (T12.setTop (mkF m 32 #[.val (.int p1), .val (.long q1), .second, .val (.int (2 : Int32)), .val (.ref b9), .val (.int (0 : Int32)), .unset] [(.long q1), (.int (0 : Int32))])) _
      refine XS.iconst X12.here hx rfl (hb hby at_32) ?_
      show Steps p.tables e below (T12.setTop (mkF m 33 #[.val (.int p1), .val (.long q1), .second, .val (.int (2 : Int32)), .val (.ref b9), .val (.int (0 : Int32)), .unset] [(.int (0 : Int32)), (.long q1), (.int (0 : Int32))])) _
      refine st13 _ ?_
      show Steps p.tables e below (T13.setTop (mkF m 36 #[.val (.int p1), .val (.long q1), .second, .val (.int (2 : Int32)), .val (.ref b9), .val (.int (0 : Int32)), .unset] [(.int (own_at q1 (0 : Int32))), (.int (0 : Int32))])) _
      refine XS.iadd X13.here hx rfl (hb hby at_36) rfl ?_
      show Steps p.tables e below (T13.setTop (mkF m 37 #[.val (.int p1), .val (.long q1), .second, .val (.int (2 : Int32)), .val (.ref b9), .val (.int (0 : Int32)), .unset] [(.int ((0 : Int32) + (own_at q1 (0 : Int32))))])) _
      refine XS.istore X13.here hx rfl (hb hby at_37) rfl (l' := #[.val (.int p1), .val (.long q1), .second, .val (.int (2 : Int32)), .val (.ref b9), .val (.int ((0 : Int32) + (own_at q1 (0 : Int32)))), .unset]) rfl ?_
      show Steps p.tables e below (T13.setTop (mkF m 39 #[.val (.int p1), .val (.long q1), .second, .val (.int (2 : Int32)), .val (.ref b9), .val (.int ((0 : Int32) + (own_at q1 (0 : Int32)))), .unset] [])) _
      refine XS.iloadN X13.here hx rfl (hb hby at_39) rfl ?_
      show Steps p.tables e below (T13.setTop (mkF m 40 #[.val (.int p1), .val (.long q1), .second, .val (.int (2 : Int32)), .val (.ref b9), .val (.int ((0 : Int32) + (own_at q1 (0 : Int32)))), .unset] [(.int (2 : Int32))])) _
      refine XS.iconst X13.here hx rfl (hb hby at_40) ?_
      show Steps p.tables e below (T13.setTop (mkF m 41 #[.val (.int p1), .val (.long q1), .second, .val (.int (2 : Int32)), .val (.ref b9), .val (.int ((0 : Int32) + (own_at q1 (0 : Int32)))), .unset] [(.int (1 : Int32)), (.int (2 : Int32))])) _
      refine XS.icmpNo X13.here hx rfl (hb hby at_41) rfl (tlt (by decide : (1 : Int32) < (2 : Int32))).2.2.2 ?_
      show Steps p.tables e below (T13.setTop (mkF m 44 #[.val (.int p1), .val (.long q1), .second, .val (.int (2 : Int32)), .val (.ref b9), .val (.int ((0 : Int32) + (own_at q1 (0 : Int32)))), .unset] [])) _
      refine XS.aload X13.here hx rfl (hb hby at_44) rfl rfl ?_
      show Steps p.tables e below (T13.setTop (mkF m 46 #[.val (.int p1), .val (.long q1), .second, .val (.int (2 : Int32)), .val (.ref b9), .val (.int ((0 : Int32) + (own_at q1 (0 : Int32)))), .unset] [(.ref b9)])) _
      refine XS.iconst X13.here hx rfl (hb hby at_46) ?_
      show Steps p.tables e below (T13.setTop (mkF m 47 #[.val (.int p1), .val (.long q1), .second, .val (.int (2 : Int32)), .val (.ref b9), .val (.int ((0 : Int32) + (own_at q1 (0 : Int32)))), .unset] [(.int (1 : Int32)), (.ref b9)])) _
      refine XS.lloadN X13.here hx rfl (hb hby at_47) rfl ?_
      show Steps p.tables e below (T13.setTop (mkF m 48 #[.val (.int p1), .val (.long q1), .second, .val (.int (2 : Int32)), .val (.ref b9), .val (.int ((0 : Int32) + (own_at q1 (0 : Int32)))), .unset] [(.long q1), (.int (1 : Int32)), (.ref b9)])) _
      refine XS.iconst X13.here hx rfl (hb hby at_48) ?_
      show Steps p.tables e below (T13.setTop (mkF m 49 #[.val (.int p1), .val (.long q1), .second, .val (.int (2 : Int32)), .val (.ref b9), .val (.int ((0 : Int32) + (own_at q1 (0 : Int32)))), .unset] [(.int (1 : Int32)), (.long q1), (.int (1 : Int32)), (.ref b9)])) _
      refine st14 _ ?_
      show Steps p.tables e below (T14.setTop (mkF m 52 #[.val (.int p1), .val (.long q1), .second, .val (.int (2 : Int32)), .val (.ref b9), .val (.int ((0 : Int32) + (own_at q1 (0 : Int32)))), .unset] [(.int (own_at q1 (1 : Int32))), (.int (1 : Int32)), (.ref b9)])) _
      refine st16 _ ?_
      show Steps p.tables e below (T16.setTop (mkF m 53 #[.val (.int p1), .val (.long q1), .second, .val (.int (2 : Int32)), .val (.ref b9), .val (.int ((0 : Int32) + (own_at q1 (0 : Int32)))), .unset] [])) _
      refine XS.iload X16.here hx rfl (hb hby at_53) rfl ?_
      show Steps p.tables e below (T16.setTop (mkF m 55 #[.val (.int p1), .val (.long q1), .second, .val (.int (2 : Int32)), .val (.ref b9), .val (.int ((0 : Int32) + (own_at q1 (0 : Int32)))), .unset] [(.int ((0 : Int32) + (own_at q1 (0 : Int32))))])) _
      refine XS.lloadN X16.here hx rfl (hb hby at_55) rfl ?_
      show Steps p.tables e below (T16.setTop (mkF m 56 #[.val (.int p1), .val (.long q1), .second, .val (.int (2 : Int32)), .val (.ref b9), .val (.int ((0 : Int32) + (own_at q1 (0 : Int32)))), .unset] [(.long q1), (.int ((0 : Int32) + (own_at q1 (0 : Int32))))])) _
      refine XS.iconst X16.here hx rfl (hb hby at_56) ?_
      show Steps p.tables e below (T16.setTop (mkF m 57 #[.val (.int p1), .val (.long q1), .second, .val (.int (2 : Int32)), .val (.ref b9), .val (.int ((0 : Int32) + (own_at q1 (0 : Int32)))), .unset] [(.int (1 : Int32)), (.long q1), (.int ((0 : Int32) + (own_at q1 (0 : Int32))))])) _
      refine st17 _ ?_
      show Steps p.tables e below (T17.setTop (mkF m 60 #[.val (.int p1), .val (.long q1), .second, .val (.int (2 : Int32)), .val (.ref b9), .val (.int ((0 : Int32) + (own_at q1 (0 : Int32)))), .unset] [(.int (own_at q1 (1 : Int32))), (.int ((0 : Int32) + (own_at q1 (0 : Int32))))])) _
      refine XS.iadd X17.here hx rfl (hb hby at_60) rfl ?_
      show Steps p.tables e below (T17.setTop (mkF m 61 #[.val (.int p1), .val (.long q1), .second, .val (.int (2 : Int32)), .val (.ref b9), .val (.int ((0 : Int32) + (own_at q1 (0 : Int32)))), .unset] [(.int (((0 : Int32) + (own_at q1 (0 : Int32))) + (own_at q1 (1 : Int32))))])) _
      refine XS.istore X17.here hx rfl (hb hby at_61) rfl (l' := #[.val (.int p1), .val (.long q1), .second, .val (.int (2 : Int32)), .val (.ref b9), .val (.int (((0 : Int32) + (own_at q1 (0 : Int32))) + (own_at q1 (1 : Int32)))), .unset]) rfl ?_
      show Steps p.tables e below (T17.setTop (mkF m 63 #[.val (.int p1), .val (.long q1), .second, .val (.int (2 : Int32)), .val (.ref b9), .val (.int (((0 : Int32) + (own_at q1 (0 : Int32))) + (own_at q1 (1 : Int32)))), .unset] [])) _
      refine XS.iloadN X17.here hx rfl (hb hby at_63) rfl ?_
      show Steps p.tables e below (T17.setTop (mkF m 64 #[.val (.int p1), .val (.long q1), .second, .val (.int (2 : Int32)), .val (.ref b9), .val (.int (((0 : Int32) + (own_at q1 (0 : Int32))) + (own_at q1 (1 : Int32)))), .unset] [(.int (2 : Int32))])) _
      refine XS.iconst X17.here hx rfl (hb hby at_64) ?_
      show Steps p.tables e below (T17.setTop (mkF m 65 #[.val (.int p1), .val (.long q1), .second, .val (.int (2 : Int32)), .val (.ref b9), .val (.int (((0 : Int32) + (own_at q1 (0 : Int32))) + (own_at q1 (1 : Int32)))), .unset] [(.int (2 : Int32)), (.int (2 : Int32))])) _
      refine XS.icmpYes X17.here hx rfl (pc0 := 65) (pc' := 87) rfl (hb hby at_65) rfl (flt (by decide : ¬ ((2 : Int32) < (2 : Int32)))).2.2.2 (by decide) (by decide) ?_
      show Steps p.tables e below (T17.setTop (mkF m 87 #[.val (.int p1), .val (.long q1), .second, .val (.int (2 : Int32)), .val (.ref b9), .val (.int (((0 : Int32) + (own_at q1 (0 : Int32))) + (own_at q1 (1 : Int32)))), .unset] [])) _
      refine XS.iloadN X17.here hx rfl (hb hby at_87) rfl ?_
      show Steps p.tables e below (T17.setTop (mkF m 88 #[.val (.int p1), .val (.long q1), .second, .val (.int (2 : Int32)), .val (.ref b9), .val (.int (((0 : Int32) + (own_at q1 (0 : Int32))) + (own_at q1 (1 : Int32)))), .unset] [(.int (2 : Int32))])) _
      refine XS.iconst X17.here hx rfl (hb hby at_88) ?_
      show Steps p.tables e below (T17.setTop (mkF m 89 #[.val (.int p1), .val (.long q1), .second, .val (.int (2 : Int32)), .val (.ref b9), .val (.int (((0 : Int32) + (own_at q1 (0 : Int32))) + (own_at q1 (1 : Int32)))), .unset] [(.int (3 : Int32)), (.int (2 : Int32))])) _
      refine XS.icmpYes X17.here hx rfl (pc0 := 89) (pc' := 111) rfl (hb hby at_89) rfl (flt (by decide : ¬ ((3 : Int32) < (2 : Int32)))).2.2.2 (by decide) (by decide) ?_
      show Steps p.tables e below (T17.setTop (mkF m 111 #[.val (.int p1), .val (.long q1), .second, .val (.int (2 : Int32)), .val (.ref b9), .val (.int (((0 : Int32) + (own_at q1 (0 : Int32))) + (own_at q1 (1 : Int32)))), .unset] [])) _
      refine XS.iloadN X17.here hx rfl (hb hby at_111) rfl ?_
      show Steps p.tables e below (T17.setTop (mkF m 112 #[.val (.int p1), .val (.long q1), .second, .val (.int (2 : Int32)), .val (.ref b9), .val (.int (((0 : Int32) + (own_at q1 (0 : Int32))) + (own_at q1 (1 : Int32)))), .unset] [(.int (2 : Int32))])) _
      refine XS.iconst X17.here hx rfl (hb hby at_112) ?_
      show Steps p.tables e below (T17.setTop (mkF m 113 #[.val (.int p1), .val (.long q1), .second, .val (.int (2 : Int32)), .val (.ref b9), .val (.int (((0 : Int32) + (own_at q1 (0 : Int32))) + (own_at q1 (1 : Int32)))), .unset] [(.int (4 : Int32)), (.int (2 : Int32))])) _
      refine XS.icmpYes X17.here hx rfl (pc0 := 113) (pc' := 135) rfl (hb hby at_113) rfl (flt (by decide : ¬ ((4 : Int32) < (2 : Int32)))).2.2.2 (by decide) (by decide) ?_
      show Steps p.tables e below (T17.setTop (mkF m 135 #[.val (.int p1), .val (.long q1), .second, .val (.int (2 : Int32)), .val (.ref b9), .val (.int (((0 : Int32) + (own_at q1 (0 : Int32))) + (own_at q1 (1 : Int32)))), .unset] [])) _
      refine XS.iloadN X17.here hx rfl (hb hby at_135) rfl ?_
      show Steps p.tables e below (T17.setTop (mkF m 136 #[.val (.int p1), .val (.long q1), .second, .val (.int (2 : Int32)), .val (.ref b9), .val (.int (((0 : Int32) + (own_at q1 (0 : Int32))) + (own_at q1 (1 : Int32)))), .unset] [(.int (2 : Int32))])) _
      refine XS.iconst X17.here hx rfl (hb hby at_136) ?_
      show Steps p.tables e below (T17.setTop (mkF m 137 #[.val (.int p1), .val (.long q1), .second, .val (.int (2 : Int32)), .val (.ref b9), .val (.int (((0 : Int32) + (own_at q1 (0 : Int32))) + (own_at q1 (1 : Int32)))), .unset] [(.int (5 : Int32)), (.int (2 : Int32))])) _
      refine XS.icmpYes X17.here hx rfl (pc0 := 137) (pc' := 159) rfl (hb hby at_137) rfl (flt (by decide : ¬ ((5 : Int32) < (2 : Int32)))).2.2.2 (by decide) (by decide) ?_
      show Steps p.tables e below (T17.setTop (mkF m 159 #[.val (.int p1), .val (.long q1), .second, .val (.int (2 : Int32)), .val (.ref b9), .val (.int (((0 : Int32) + (own_at q1 (0 : Int32))) + (own_at q1 (1 : Int32)))), .unset] [])) _
      refine XS.iloadN X17.here hx rfl (hb hby at_159) rfl ?_
      show Steps p.tables e below (T17.setTop (mkF m 160 #[.val (.int p1), .val (.long q1), .second, .val (.int (2 : Int32)), .val (.ref b9), .val (.int (((0 : Int32) + (own_at q1 (0 : Int32))) + (own_at q1 (1 : Int32)))), .unset] [(.int (2 : Int32))])) _
      refine XS.bipush X17.here hx rfl (hb hby at_160) ?_
      show Steps p.tables e below (T17.setTop (mkF m 162 #[.val (.int p1), .val (.long q1), .second, .val (.int (2 : Int32)), .val (.ref b9), .val (.int (((0 : Int32) + (own_at q1 (0 : Int32))) + (own_at q1 (1 : Int32)))), .unset] [(.int (6 : Int32)), (.int (2 : Int32))])) _
      refine XS.icmpYes X17.here hx rfl (pc0 := 162) (pc' := 187) rfl (hb hby at_162) rfl (flt (by decide : ¬ ((6 : Int32) < (2 : Int32)))).2.2.2 (by decide) (by decide) ?_
      show Steps p.tables e below (T17.setTop (mkF m 187 #[.val (.int p1), .val (.long q1), .second, .val (.int (2 : Int32)), .val (.ref b9), .val (.int (((0 : Int32) + (own_at q1 (0 : Int32))) + (own_at q1 (1 : Int32)))), .unset] [])) _
      refine XS.iloadN X17.here hx rfl (hb hby at_187) rfl ?_
      show Steps p.tables e below (T17.setTop (mkF m 188 #[.val (.int p1), .val (.long q1), .second, .val (.int (2 : Int32)), .val (.ref b9), .val (.int (((0 : Int32) + (own_at q1 (0 : Int32))) + (own_at q1 (1 : Int32)))), .unset] [(.int (2 : Int32))])) _
      refine XS.bipush X17.here hx rfl (hb hby at_188) ?_
      show Steps p.tables e below (T17.setTop (mkF m 190 #[.val (.int p1), .val (.long q1), .second, .val (.int (2 : Int32)), .val (.ref b9), .val (.int (((0 : Int32) + (own_at q1 (0 : Int32))) + (own_at q1 (1 : Int32)))), .unset] [(.int (7 : Int32)), (.int (2 : Int32))])) _
      refine XS.icmpYes X17.here hx rfl (pc0 := 190) (pc' := 215) rfl (hb hby at_190) rfl (flt (by decide : ¬ ((7 : Int32) < (2 : Int32)))).2.2.2 (by decide) (by decide) ?_
      show Steps p.tables e below (T17.setTop (mkF m 215 #[.val (.int p1), .val (.long q1), .second, .val (.int (2 : Int32)), .val (.ref b9), .val (.int (((0 : Int32) + (own_at q1 (0 : Int32))) + (own_at q1 (1 : Int32)))), .unset] [])) _
      refine XS.aload X17.here hx rfl (hb hby at_215) rfl rfl ?_
      show Steps p.tables e below (T17.setTop (mkF m 217 #[.val (.int p1), .val (.long q1), .second, .val (.int (2 : Int32)), .val (.ref b9), .val (.int (((0 : Int32) + (own_at q1 (0 : Int32))) + (own_at q1 (1 : Int32)))), .unset] [(.ref b9)])) _
      refine st18 _ ?_
      show Steps p.tables e below (T18.setTop (mkF m 220 #[.val (.int p1), .val (.long q1), .second, .val (.int (2 : Int32)), .val (.ref b9), .val (.int (((0 : Int32) + (own_at q1 (0 : Int32))) + (own_at q1 (1 : Int32)))), .unset] [(.int (own_cs [(own_at q1 (0 : Int32)), (own_at q1 (1 : Int32))]))])) _
      refine XS.istore X18.here hx rfl (hb hby at_220) rfl (l' := #[.val (.int p1), .val (.long q1), .second, .val (.int (2 : Int32)), .val (.ref b9), .val (.int (((0 : Int32) + (own_at q1 (0 : Int32))) + (own_at q1 (1 : Int32)))), .val (.int (own_cs [(own_at q1 (0 : Int32)), (own_at q1 (1 : Int32))]))]) rfl ?_
      show Steps p.tables e below (T18.setTop (mkF m 222 #[.val (.int p1), .val (.long q1), .second, .val (.int (2 : Int32)), .val (.ref b9), .val (.int (((0 : Int32) + (own_at q1 (0 : Int32))) + (own_at q1 (1 : Int32)))), .val (.int (own_cs [(own_at q1 (0 : Int32)), (own_at q1 (1 : Int32))]))] [])) _
      refine XS.iload X18.here hx rfl (hb hby at_222) rfl ?_
      show Steps p.tables e below (T18.setTop (mkF m 224 #[.val (.int p1), .val (.long q1), .second, .val (.int (2 : Int32)), .val (.ref b9), .val (.int (((0 : Int32) + (own_at q1 (0 : Int32))) + (own_at q1 (1 : Int32)))), .val (.int (own_cs [(own_at q1 (0 : Int32)), (own_at q1 (1 : Int32))]))] [(.int (own_cs [(own_at q1 (0 : Int32)), (own_at q1 (1 : Int32))]))])) _
      refine XS.iload X18.here hx rfl (hb hby at_224) rfl ?_
      show Steps p.tables e below (T18.setTop (mkF m 226 #[.val (.int p1), .val (.long q1), .second, .val (.int (2 : Int32)), .val (.ref b9), .val (.int (((0 : Int32) + (own_at q1 (0 : Int32))) + (own_at q1 (1 : Int32)))), .val (.int (own_cs [(own_at q1 (0 : Int32)), (own_at q1 (1 : Int32))]))] [(.int (((0 : Int32) + (own_at q1 (0 : Int32))) + (own_at q1 (1 : Int32)))), (.int (own_cs [(own_at q1 (0 : Int32)), (own_at q1 (1 : Int32))]))])) _
      refine XS.sipush X18.here hx rfl (hb hby at_226) ?_
      show Steps p.tables e below (T18.setTop (mkF m 229 #[.val (.int p1), .val (.long q1), .second, .val (.int (2 : Int32)), .val (.ref b9), .val (.int (((0 : Int32) + (own_at q1 (0 : Int32))) + (own_at q1 (1 : Int32)))), .val (.int (own_cs [(own_at q1 (0 : Int32)), (own_at q1 (1 : Int32))]))] [(.int (255 : Int32)), (.int (((0 : Int32) + (own_at q1 (0 : Int32))) + (own_at q1 (1 : Int32)))), (.int (own_cs [(own_at q1 (0 : Int32)), (own_at q1 (1 : Int32))]))])) _
      refine XS.iand X18.here hx rfl (hb hby at_229) rfl ?_
      show Steps p.tables e below (T18.setTop (mkF m 230 #[.val (.int p1), .val (.long q1), .second, .val (.int (2 : Int32)), .val (.ref b9), .val (.int (((0 : Int32) + (own_at q1 (0 : Int32))) + (own_at q1 (1 : Int32)))), .val (.int (own_cs [(own_at q1 (0 : Int32)), (own_at q1 (1 : Int32))]))] [(.int ((((0 : Int32) + (own_at q1 (0 : Int32))) + (own_at q1 (1 : Int32))) &&& (255 : Int32))), (.int (own_cs [(own_at q1 (0 : Int32)), (own_at q1 (1 : Int32))]))])) _
      refine XS.icmpNo X18.here hx rfl (hb hby at_230) rfl (teq (own_key [(own_at q1 (0 : Int32)), (own_at q1 (1 : Int32))] : (own_cs [(own_at q1 (0 : Int32)), (own_at q1 (1 : Int32))]) = ((((0 : Int32) + (own_at q1 (0 : Int32))) + (own_at q1 (1 : Int32))) &&& (255 : Int32)))).2 ?_
      show Steps p.tables e below (T18.setTop (mkF m 233 #[.val (.int p1), .val (.long q1), .second, .val (.int (2 : Int32)), .val (.ref b9), .val (.int (((0 : Int32) + (own_at q1 (0 : Int32))) + (own_at q1 (1 : Int32)))), .val (.int (own_cs [(own_at q1 (0 : Int32)), (own_at q1 (1 : Int32))]))] [])) _
      refine XS.iconst X18.here hx rfl (hb hby at_233) ?_
      show Steps p.tables e below (T18.setTop (mkF m 234 #[.val (.int p1), .val (.long q1), .second, .val (.int (2 : Int32)), .val (.ref b9), .val (.int (((0 : Int32) + (own_at q1 (0 : Int32))) + (own_at q1 (1 : Int32)))), .val (.int (own_cs [(own_at q1 (0 : Int32)), (own_at q1 (1 : Int32))]))] [(.int (1 : Int32))])) _
      refine XS.goto X18.here hx rfl (pc0 := 234) (pc' := 238) rfl (hb hby at_234) (by decide) (by decide) ?_
      show Steps p.tables e below (T18.setTop (mkF m 238 #[.val (.int p1), .val (.long q1), .second, .val (.int (2 : Int32)), .val (.ref b9), .val (.int (((0 : Int32) + (own_at q1 (0 : Int32))) + (own_at q1 (1 : Int32)))), .val (.int (own_cs [(own_at q1 (0 : Int32)), (own_at q1 (1 : Int32))]))] [(.int (1 : Int32))])) _
      exact retN X18 hx (t := .boolean) Bd.returns (by simp) (hb hby at_238) hr
    · show Qown_law Z p1 q1 h0 n0 _ T18.heap _
      rw [e18]
      exact ⟨rfl, N18⟩
  · obtain ⟨T19, h19, k19, X19, e19, E19, A19, st19⟩ := newP X0 hx hZ (hw _ (List.mem_of_getElem? (i := 1) rfl)) e0 (g := (mkF m 9 #[.val (.int p1), .val (.long q1), .second, .val (.int (3 : Int32)), .unset, .unset, .unset] [(.int (3 : Int32))])) rfl (hb hby at_9) rfl (by decide) (cap := 3) (by decide) (by decide) (by decide) (by decide)
    obtain ⟨b19, g19⟩ : ∃ z, z = h0.size := ⟨_, rfl⟩
    rw [← g19] at A19 st19
    have V19 : Arv Z h19 b19 k19 .byte (3 : Int32) [(.int (0 : Int32)), (.int (0 : Int32)), (.int (0 : Int32))] (.int (0 : Int32)) := (Arv.new A19 (by decide)).pad (pad_rep [] (.int (0 : Int32)) 3)
    have g_b19 : n0 ≤ b19 := Nat.le_trans Z0 (Nat.le_of_eq g19.symm)
    have sz_b19 : h0.size ≤ b19 := Nat.le_trans (Keep.refl h0 []).1 (Nat.le_of_eq g19.symm)
    have Z19 : n0 ≤ h19.size := Nat.le_trans Z0 E19.1
    have K19 : Keep h0 h19 [] := (Keep.refl h0 []).ext E19
    obtain ⟨_, _, ⟨T20, L20, k20, n20⟩, -, X20, ⟨Lc20, hQ20, l20, y20, z20⟩, st20⟩ := Jvm.LawKit.callS X19 hx (y := (⟨"com/example/assaybus/assaybus/link/FrameChecksumPinLaw", "at", "(JI)B"⟩ : MethodName)) hown (mvT hZ (hw _ (List.mem_of_getElem? (i := 6) rfl))) (mvT hZ (hw _ (List.mem_of_getElem? (i := 7) rfl))) (mvT hZ (hw _ (List.mem_of_getElem? (i := 8) rfl))) (mvT hZ (hw _ (List.mem_of_getElem? (i := 9) rfl))) (by decide) (backOf (W := 2) (own_mat l Z a0 hw [] q1 (0 : Int32)  h19 n0 Z19 ) hZ (hw _ (List.mem_of_getElem? (i := 9) rfl)) (hw _ (List.mem_of_getElem? (i := 8) rfl)) (by decide) (by decide)) (g := (mkF m 25 #[.val (.int p1), .val (.long q1), .second, .val (.int (3 : Int32)), .val (.ref b19), .val (.int (0 : Int32)), .unset] [(.int (0 : Int32)), (.long q1), (.int (0 : Int32)), (.ref b19)])) rfl (by rw [hml]; rfl) (argsL := [(.long q1), (.int (0 : Int32))]) (rest := [(.int (0 : Int32)), (.ref b19)]) (lenOf pd__JI_B rfl) rfl (by show 2 * 0 + _ ≤ _; exact Nat.le_of_eq rfl) (hb hby at_25) (fun _ _ => ⟨rfl, e19, (by decide : 1 + 0 ≤ _), (by decide : 3 + 0 ≤ _)⟩)
    dsimp only [Pt.U, Pt.locs, Pt.cells, Pt.slots] at X20 l20 y20 z20 st20 hQ20
    replace X20 := X20.more (Nat.le_of_eq (show k20 = 1 from y20)) (Nat.le_of_eq (show n20 = 3 from z20))
    obtain ⟨rfl, Nq20, e20⟩ := hQ20
    have N20 : Fr n0 L20 := by rw [l20]; exact Fr.app N0 Nq20
    obtain ⟨cl21, Ar21, qc21, S21, Nn21, H21, G21⟩ := id V19
    have hin21 : ¬ ((0 : Int32) < 0 ∨ cl21.slots.size ≤ ((0 : Int32)).toNatClampNeg) := inb_of S21 ⟨by decide, by decide⟩
    obtain ⟨T22, h22, X22, e22, W22, st22⟩ := stB X20 hx hZ e20 Ar21 (j := (0 : Int32)) hin21 (g := (mkF m 28 #[.val (.int p1), .val (.long q1), .second, .val (.int (3 : Int32)), .val (.ref b19), .val (.int (0 : Int32)), .unset] [(.int (own_at q1 (0 : Int32))), (.int (0 : Int32)), (.ref b19)])) rfl rfl (hb hby at_28)
    have V22 : Arv Z h22 b19 k19 .byte (3 : Int32) [(.int (nar .byte (own_at q1 (0 : Int32)))), (.int (0 : Int32)), (.int (0 : Int32))] (.int (0 : Int32)) := Arv.set Ar21 qc21 S21 Nn21 H21 G21 (fits_nar_byte _) W22 0 rfl (Nat.le_of_ble_eq_true rfl)
    have V22v : Arv Z h22 b19 k19 .byte (3 : Int32) [(.int (own_at q1 (0 : Int32))), (.int (0 : Int32)), (.int (0 : Int32))] (.int (0 : Int32)) := by have q := V22; rw [own_nara] at q; exact q
    have K22 : Keep h0 h22 [] := K19.wr W22 (Or.inr sz_b19)
    have N22 := Fr.snoc X22 N20 g_b19
    have Z22 : n0 ≤ h22.size := Nat.le_trans Z19 (Keep.of_wr W22).1
    obtain ⟨_, _, ⟨T23, L23, k23, n23⟩, -, X23, ⟨Lc23, hQ23, l23, y23, z23⟩, st23⟩ := Jvm.LawKit.callS X22 hx (y := (⟨"com/example/assaybus/assaybus/link/FrameChecksumPinLaw", "at", "(JI)B"⟩ : MethodName)) hown (mvT hZ (hw _ (List.mem_of_getElem? (i := 6) rfl))) (mvT hZ (hw _ (List.mem_of_getElem? (i := 7) rfl))) (mvT hZ (hw _ (List.mem_of_getElem? (i := 8) rfl))) (mvT hZ (hw _ (List.mem_of_getElem? (i := 9) rfl))) (by decide) (backOf (W := 1) (own_mat l Z a0 hw [] q1 (0 : Int32)  h22 n0 Z22 ) hZ (hw _ (List.mem_of_getElem? (i := 9) rfl)) (hw _ (List.mem_of_getElem? (i := 8) rfl)) (by decide) (by decide)) (g := (mkF m 33 #[.val (.int p1), .val (.long q1), .second, .val (.int (3 : Int32)), .val (.ref b19), .val (.int (0 : Int32)), .unset] [(.int (0 : Int32)), (.long q1), (.int (0 : Int32))])) rfl (by rw [hml]; rfl) (argsL := [(.long q1), (.int (0 : Int32))]) (rest := [(.int (0 : Int32))]) (lenOf pd__JI_B rfl) rfl (by show 2 * 0 + _ ≤ _; exact Nat.le_of_eq rfl) (hb hby at_33) (fun _ _ => ⟨rfl, e22, (by decide : 1 + 0 ≤ _), (by decide : 3 + 0 ≤ _)⟩)
    dsimp only [Pt.U, Pt.locs, Pt.cells, Pt.slots] at X23 l23 y23 z23 st23 hQ23
    replace X23 := X23.more (Nat.le_of_eq (show k23 = 1 from y23)) (Nat.le_of_eq (show n23 = 3 from z23))
    obtain ⟨rfl, Nq23, e23⟩ := hQ23
    have N23 : Fr n0 L23 := by rw [l23]; exact Fr.app N22 Nq23
    obtain ⟨_, _, ⟨T24, L24, k24, n24⟩, -, X24, ⟨Lc24, hQ24, l24, y24, z24⟩, st24⟩ := Jvm.LawKit.callS X23 hx (y := (⟨"com/example/assaybus/assaybus/link/FrameChecksumPinLaw", "at", "(JI)B"⟩ : MethodName)) hown (mvT hZ (hw _ (List.mem_of_getElem? (i := 6) rfl))) (mvT hZ (hw _ (List.mem_of_getElem? (i := 7) rfl))) (mvT hZ (hw _ (List.mem_of_getElem? (i := 8) rfl))) (mvT hZ (hw _ (List.mem_of_getElem? (i := 9) rfl))) (by decide) (backOf (W := 2) (own_mat l Z a0 hw [] q1 (1 : Int32)  h22 n0 Z22 ) hZ (hw _ (List.mem_of_getElem? (i := 9) rfl)) (hw _ (List.mem_of_getElem? (i := 8) rfl)) (by decide) (by decide)) (g := (mkF m 49 #[.val (.int p1), .val (.long q1), .second, .val (.int (3 : Int32)), .val (.ref b19), .val (.int ((0 : Int32) + (own_at q1 (0 : Int32)))), .unset] [(.int (1 : Int32)), (.long q1), (.int (1 : Int32)), (.ref b19)])) rfl (by rw [hml]; rfl) (argsL := [(.long q1), (.int (1 : Int32))]) (rest := [(.int (1 : Int32)), (.ref b19)]) (lenOf pd__JI_B rfl) rfl (by show 2 * 0 + _ ≤ _; exact Nat.le_of_eq rfl) (hb hby at_49) (fun _ _ => ⟨rfl, e23, (by decide : 1 + 0 ≤ _), (by decide : 3 + 0 ≤ _)⟩)
    dsimp only [Pt.U, Pt.locs, Pt.cells, Pt.slots] at X24 l24 y24 z24 st24 hQ24
    replace X24 := X24.more (Nat.le_of_eq (show k24 = 1 from y24)) (Nat.le_of_eq (show n24 = 3 from z24))
    obtain ⟨rfl, Nq24, e24⟩ := hQ24
    have N24 : Fr n0 L24 := by rw [l24]; exact Fr.app N23 Nq24
    obtain ⟨cl25, Ar25, qc25, S25, Nn25, H25, G25⟩ := id V22v
    have hin25 : ¬ ((1 : Int32) < 0 ∨ cl25.slots.size ≤ ((1 : Int32)).toNatClampNeg) := inb_of S25 ⟨by decide, by decide⟩
    obtain ⟨T26, h26, X26, e26, W26, st26⟩ := stB X24 hx hZ e24 Ar25 (j := (1 : Int32)) hin25 (g := (mkF m 52 #[.val (.int p1), .val (.long q1), .second, .val (.int (3 : Int32)), .val (.ref b19), .val (.int ((0 : Int32) + (own_at q1 (0 : Int32)))), .unset] [(.int (own_at q1 (1 : Int32))), (.int (1 : Int32)), (.ref b19)])) rfl rfl (hb hby at_52)
    have V26 : Arv Z h26 b19 k19 .byte (3 : Int32) [(.int (own_at q1 (0 : Int32))), (.int (nar .byte (own_at q1 (1 : Int32)))), (.int (0 : Int32))] (.int (0 : Int32)) := Arv.set Ar25 qc25 S25 Nn25 H25 G25 (fits_nar_byte _) W26 1 rfl (Nat.le_of_ble_eq_true rfl)
    have V26v : Arv Z h26 b19 k19 .byte (3 : Int32) [(.int (own_at q1 (0 : Int32))), (.int (own_at q1 (1 : Int32))), (.int (0 : Int32))] (.int (0 : Int32)) := by have q := V26; rw [own_nara] at q; exact q
    have K26 : Keep h0 h26 [] := K22.wr W26 (Or.inr sz_b19)
    have N26 := Fr.snoc X26 N24 g_b19
    have Z26 : n0 ≤ h26.size := Nat.le_trans Z22 (Keep.of_wr W26).1
    obtain ⟨_, _, ⟨T27, L27, k27, n27⟩, -, X27, ⟨Lc27, hQ27, l27, y27, z27⟩, st27⟩ := Jvm.LawKit.callS X26 hx (y := (⟨"com/example/assaybus/assaybus/link/FrameChecksumPinLaw", "at", "(JI)B"⟩ : MethodName)) hown (mvT hZ (hw _ (List.mem_of_getElem? (i := 6) rfl))) (mvT hZ (hw _ (List.mem_of_getElem? (i := 7) rfl))) (mvT hZ (hw _ (List.mem_of_getElem? (i := 8) rfl))) (mvT hZ (hw _ (List.mem_of_getElem? (i := 9) rfl))) (by decide) (backOf (W := 1) (own_mat l Z a0 hw [] q1 (1 : Int32)  h26 n0 Z26 ) hZ (hw _ (List.mem_of_getElem? (i := 9) rfl)) (hw _ (List.mem_of_getElem? (i := 8) rfl)) (by decide) (by decide)) (g := (mkF m 57 #[.val (.int p1), .val (.long q1), .second, .val (.int (3 : Int32)), .val (.ref b19), .val (.int ((0 : Int32) + (own_at q1 (0 : Int32)))), .unset] [(.int (1 : Int32)), (.long q1), (.int ((0 : Int32) + (own_at q1 (0 : Int32))))])) rfl (by rw [hml]; rfl) (argsL := [(.long q1), (.int (1 : Int32))]) (rest := [(.int ((0 : Int32) + (own_at q1 (0 : Int32))))]) (lenOf pd__JI_B rfl) rfl (by show 2 * 0 + _ ≤ _; exact Nat.le_of_eq rfl) (hb hby at_57) (fun _ _ => ⟨rfl, e26, (by decide : 1 + 0 ≤ _), (by decide : 3 + 0 ≤ _)⟩)
    dsimp only [Pt.U, Pt.locs, Pt.cells, Pt.slots] at X27 l27 y27 z27 st27 hQ27
    replace X27 := X27.more (Nat.le_of_eq (show k27 = 1 from y27)) (Nat.le_of_eq (show n27 = 3 from z27))
    obtain ⟨rfl, Nq27, e27⟩ := hQ27
    have N27 : Fr n0 L27 := by rw [l27]; exact Fr.app N26 Nq27
    obtain ⟨_, _, ⟨T28, L28, k28, n28⟩, -, X28, ⟨Lc28, hQ28, l28, y28, z28⟩, st28⟩ := Jvm.LawKit.callS X27 hx (y := (⟨"com/example/assaybus/assaybus/link/FrameChecksumPinLaw", "at", "(JI)B"⟩ : MethodName)) hown (mvT hZ (hw _ (List.mem_of_getElem? (i := 6) rfl))) (mvT hZ (hw _ (List.mem_of_getElem? (i := 7) rfl))) (mvT hZ (hw _ (List.mem_of_getElem? (i := 8) rfl))) (mvT hZ (hw _ (List.mem_of_getElem? (i := 9) rfl))) (by decide) (backOf (W := 2) (own_mat l Z a0 hw [] q1 (2 : Int32)  h26 n0 Z26 ) hZ (hw _ (List.mem_of_getElem? (i := 9) rfl)) (hw _ (List.mem_of_getElem? (i := 8) rfl)) (by decide) (by decide)) (g := (mkF m 73 #[.val (.int p1), .val (.long q1), .second, .val (.int (3 : Int32)), .val (.ref b19), .val (.int (((0 : Int32) + (own_at q1 (0 : Int32))) + (own_at q1 (1 : Int32)))), .unset] [(.int (2 : Int32)), (.long q1), (.int (2 : Int32)), (.ref b19)])) rfl (by rw [hml]; rfl) (argsL := [(.long q1), (.int (2 : Int32))]) (rest := [(.int (2 : Int32)), (.ref b19)]) (lenOf pd__JI_B rfl) rfl (by show 2 * 0 + _ ≤ _; exact Nat.le_of_eq rfl) (hb hby at_73) (fun _ _ => ⟨rfl, e27, (by decide : 1 + 0 ≤ _), (by decide : 3 + 0 ≤ _)⟩)
    dsimp only [Pt.U, Pt.locs, Pt.cells, Pt.slots] at X28 l28 y28 z28 st28 hQ28
    replace X28 := X28.more (Nat.le_of_eq (show k28 = 1 from y28)) (Nat.le_of_eq (show n28 = 3 from z28))
    obtain ⟨rfl, Nq28, e28⟩ := hQ28
    have N28 : Fr n0 L28 := by rw [l28]; exact Fr.app N27 Nq28
    obtain ⟨cl29, Ar29, qc29, S29, Nn29, H29, G29⟩ := id V26v
    have hin29 : ¬ ((2 : Int32) < 0 ∨ cl29.slots.size ≤ ((2 : Int32)).toNatClampNeg) := inb_of S29 ⟨by decide, by decide⟩
    obtain ⟨T30, h30, X30, e30, W30, st30⟩ := stB X28 hx hZ e28 Ar29 (j := (2 : Int32)) hin29 (g := (mkF m 76 #[.val (.int p1), .val (.long q1), .second, .val (.int (3 : Int32)), .val (.ref b19), .val (.int (((0 : Int32) + (own_at q1 (0 : Int32))) + (own_at q1 (1 : Int32)))), .unset] [(.int (own_at q1 (2 : Int32))), (.int (2 : Int32)), (.ref b19)])) rfl rfl (hb hby at_76)
    have V30 : Arv Z h30 b19 k19 .byte (3 : Int32) [(.int (own_at q1 (0 : Int32))), (.int (own_at q1 (1 : Int32))), (.int (nar .byte (own_at q1 (2 : Int32))))] (.int (0 : Int32)) := Arv.set Ar29 qc29 S29 Nn29 H29 G29 (fits_nar_byte _) W30 2 rfl (Nat.le_of_ble_eq_true rfl)
    have V30v : Arv Z h30 b19 k19 .byte (3 : Int32) [(.int (own_at q1 (0 : Int32))), (.int (own_at q1 (1 : Int32))), (.int (own_at q1 (2 : Int32)))] (.int (0 : Int32)) := by have q := V30; rw [own_nara] at q; exact q
    have K30 : Keep h0 h30 [] := K26.wr W30 (Or.inr sz_b19)
    have N30 := Fr.snoc X30 N28 g_b19
    have Z30 : n0 ≤ h30.size := Nat.le_trans Z26 (Keep.of_wr W30).1
    obtain ⟨_, _, ⟨T31, L31, k31, n31⟩, -, X31, ⟨Lc31, hQ31, l31, y31, z31⟩, st31⟩ := Jvm.LawKit.callS X30 hx (y := (⟨"com/example/assaybus/assaybus/link/FrameChecksumPinLaw", "at", "(JI)B"⟩ : MethodName)) hown (mvT hZ (hw _ (List.mem_of_getElem? (i := 6) rfl))) (mvT hZ (hw _ (List.mem_of_getElem? (i := 7) rfl))) (mvT hZ (hw _ (List.mem_of_getElem? (i := 8) rfl))) (mvT hZ (hw _ (List.mem_of_getElem? (i := 9) rfl))) (by decide) (backOf (W := 1) (own_mat l Z a0 hw [] q1 (2 : Int32)  h30 n0 Z30 ) hZ (hw _ (List.mem_of_getElem? (i := 9) rfl)) (hw _ (List.mem_of_getElem? (i := 8) rfl)) (by decide) (by decide)) (g := (mkF m 81 #[.val (.int p1), .val (.long q1), .second, .val (.int (3 : Int32)), .val (.ref b19), .val (.int (((0 : Int32) + (own_at q1 (0 : Int32))) + (own_at q1 (1 : Int32)))), .unset] [(.int (2 : Int32)), (.long q1), (.int (((0 : Int32) + (own_at q1 (0 : Int32))) + (own_at q1 (1 : Int32))))])) rfl (by rw [hml]; rfl) (argsL := [(.long q1), (.int (2 : Int32))]) (rest := [(.int (((0 : Int32) + (own_at q1 (0 : Int32))) + (own_at q1 (1 : Int32))))]) (lenOf pd__JI_B rfl) rfl (by show 2 * 0 + _ ≤ _; exact Nat.le_of_eq rfl) (hb hby at_81) (fun _ _ => ⟨rfl, e30, (by decide : 1 + 0 ≤ _), (by decide : 3 + 0 ≤ _)⟩)
    dsimp only [Pt.U, Pt.locs, Pt.cells, Pt.slots] at X31 l31 y31 z31 st31 hQ31
    replace X31 := X31.more (Nat.le_of_eq (show k31 = 1 from y31)) (Nat.le_of_eq (show n31 = 3 from z31))
    obtain ⟨rfl, Nq31, e31⟩ := hQ31
    have N31 : Fr n0 L31 := by rw [l31]; exact Fr.app N30 Nq31
    obtain ⟨_, _, ⟨T32, L32, k32, n32⟩, -, X32, ⟨Lc32, hQ32, l32, y32, z32⟩, st32⟩ := Jvm.LawKit.callS X31 hx (y := (⟨"com/example/assaybus/assaybus/link/Frame", "checksum", "([B)I"⟩ : MethodName)) hown (mvT hZ (hw _ (List.mem_of_getElem? (i := 2) rfl))) (mvT hZ (hw _ (List.mem_of_getElem? (i := 3) rfl))) (mvT hZ (hw _ (List.mem_of_getElem? (i := 4) rfl))) (mvT hZ (hw _ (List.mem_of_getElem? (i := 5) rfl))) (by decide) (backOf (W := 0) (own_sumof l Z a0 hw [] b19 k19 (3 : Int32) [(own_at q1 (0 : Int32)), (own_at q1 (1 : Int32)), (own_at q1 (2 : Int32))] h30 n0 Z30 V30v rfl) hZ (hw _ (List.mem_of_getElem? (i := 5) rfl)) (hw _ (List.mem_of_getElem? (i := 4) rfl)) (by decide) (by decide)) (g := (mkF m 217 #[.val (.int p1), .val (.long q1), .second, .val (.int (3 : Int32)), .val (.ref b19), .val (.int ((((0 : Int32) + (own_at q1 (0 : Int32))) + (own_at q1 (1 : Int32))) + (own_at q1 (2 : Int32)))), .unset] [(.ref b19)])) rfl (by rw [hml]; rfl) (argsL := [(.ref b19)]) (rest := []) (lenOf pd___B_I rfl) rfl (by show 2 * 0 + _ ≤ _; exact Nat.le_of_eq rfl) (hb hby at_217) (fun _ _ => ⟨rfl, e31, (by decide : 1 + 0 ≤ _), (by decide : 3 + 0 ≤ _)⟩)
    dsimp only [Pt.U, Pt.locs, Pt.cells, Pt.slots] at X32 l32 y32 z32 st32 hQ32
    replace X32 := X32.more (Nat.le_of_eq (show k32 = 1 from y32)) (Nat.le_of_eq (show n32 = 3 from z32))
    obtain ⟨rfl, Nq32, e32⟩ := hQ32
    have N32 : Fr n0 L32 := by rw [l32]; exact Fr.app N31 Nq32
    obtain ⟨fs, hr, hrun, hended, hW, hsame⟩ := X32.leave (v := some (.int (1 : Int32))) (fun h => by rw [Bd.returns] at h; cases h)
    refine ⟨_, _, pre0 _ ?_, hrun, hended, _, _, rfl, ?_, ⟨_, rfl⟩, hW, hsame.mono (by decide) (by decide)⟩
    · show Steps p.tables e below (s₁.setTop (mkF m 0 #[.val (.int p1), .val (.long q1), .second, .unset, .unset, .unset, .unset] [])) _
      refine XS.iloadN X0.here hx rfl (hb hby at_0) rfl ?_
      show Steps p.tables e below (s₁.setTop (mkF m 1 #[.val (.int p1), .val (.long q1), .second, .unset, .unset, .unset, .unset] [(.int p1)])) _
      refine X0.ldcInt hx hown (mvT hZ (hw _ (List.mem_of_getElem? (i := 0) rfl))) (g := (mkF m 1 #[.val (.int p1), .val (.long q1), .second, .unset, .unset, .unset, .unset] [(.int p1)])) rfl (hb hby at_1) _ ?_
      show Steps p.tables e below (s₁.setTop (mkF m 3 #[.val (.int p1), .val (.long q1), .second, .unset, .unset, .unset, .unset] [(.int (2147483647 : Int32)), (.int p1)])) _
      refine XS.iand X0.here hx rfl (hb hby at_3) rfl ?_
      show Steps p.tables e below (s₁.setTop (mkF m 4 #[.val (.int p1), .val (.long q1), .second, .unset, .unset, .unset, .unset] [(.int (p1 &&& (2147483647 : Int32)))])) _
      refine XS.bipush X0.here hx rfl (hb hby at_4) ?_
      show Steps p.tables e below (s₁.setTop (mkF m 6 #[.val (.int p1), .val (.long q1), .second, .unset, .unset, .unset, .unset] [(.int (9 : Int32)), (.int (p1 &&& (2147483647 : Int32)))])) _
      refine iremM X0 hx rfl (hb hby at_6) rfl (by decide) ?_
      show Steps p.tables e below (s₁.setTop (mkF m 7 #[.val (.int p1), .val (.long q1), .second, .unset, .unset, .unset, .unset] [(.int ((p1 &&& (2147483647 : Int32)) % (9 : Int32)))])) _
      rw [hl]
      show Steps p.tables e below (s₁.setTop (mkF m 7 #[.val (.int p1), .val (.long q1), .second, .unset, .unset, .unset, .unset] [(.int (3 : Int32))])) _
      refine XS.istoreN X0.here hx rfl (hb hby at_7) rfl (l' := #[.val (.int p1), .val (.long q1), .second, .val (.int (3 : Int32)), .unset, .unset, .unset]) rfl ?_
      show Steps p.tables e below (s₁.setTop (mkF m 8 #[.val (.int p1), .val (.long q1), .second, .val (.int (3 : Int32)), .unset, .unset, .unset] [])) _
      refine XS.iloadN X0.here hx rfl (hb hby at_8) rfl ?_
      show Steps p.tables e below (s₁.setTop (mkF m 9 #[.val (.int p1), .val (.long q1), .second, .val (.int (3 : Int32)), .unset, .unset, .unset] [(.int (3 : Int32))])) _
      refine st19 _ ?_
      show Steps p.tables e below (T19.setTop (mkF m 11 #[.val (.int p1), .val (.long q1), .second, .val (.int (3 : Int32)), .unset, .unset, .unset] [(.ref b19)])) _
      refine XS.astore X19.here hx rfl (hb hby at_11) rfl rfl (l' := #[.val (.int p1), .val (.long q1), .second, .val (.int (3 : Int32)), .val (.ref b19), .unset, .unset]) rfl ?_
      show Steps p.tables e below (T19.setTop (mkF m 13 #[.val (.int p1), .val (.long q1), .second, .val (.int (3 : Int32)), .val (.ref b19), .unset, .unset] [])) _
      refine XS.iconst X19.here hx rfl (hb hby at_13) ?_
      show Steps p.tables e below (T19.setTop (mkF m 14 #[.val (.int p1), .val (.long q1), .second, .val (.int (3 : Int32)), .val (.ref b19), .unset, .unset] [(.int (0 : Int32))])) _
      refine XS.istore X19.here hx rfl (hb hby at_14) rfl (l' := #[.val (.int p1), .val (.long q1), .second, .val (.int (3 : Int32)), .val (.ref b19), .val (.int (0 : Int32)), .unset]) rfl ?_
      show Steps p.tables e below (T19.setTop (mkF m 16 #[.val (.int p1), .val (.long q1), .second, .val (.int (3 : Int32)), .val (.ref b19), .val (.int (0 : Int32)), .unset] [])) _
      refine XS.iloadN X19.here hx rfl (hb hby at_16) rfl ?_
      show Steps p.tables e below (T19.setTop (mkF m 17 #[.val (.int p1), .val (.long q1), .second, .val (.int (3 : Int32)), .val (.ref b19), .val (.int (0 : Int32)), .unset] [(.int (3 : Int32))])) _
      refine XS.ifNo X19.here hx rfl (hb hby at_17) rfl ((if0 _ _).trans (tlt (by decide : (0 : Int32) < (3 : Int32))).2.2.2) ?_
      show Steps p.tables e below (T19.setTop (mkF m 20 #[.val (.int p1), .val (.long q1), .second, .val (.int (3 : Int32)), .val (.ref b19), .val (.int (0 : Int32)), .unset] [])) _
      refine XS.aload X19.here hx rfl (hb hby at_20) rfl rfl ?_
      show Steps p.tables e below (T19.setTop (mkF m 22 #[.val (.int p1), .val (.long q1), .second, .val (.int (3 : Int32)), .val (.ref b19), .val (.int (0 : Int32)), .unset] [(.ref b19)])) _
      refine XS.iconst X19.here hx rfl (hb hby at_22) ?_
      show Steps p.tables e below (T19.setTop (mkF m 23 #[.val (.int p1), .val (.long q1), .second, .val (.int (3 : Int32)), .val (.ref b19), .val (.int (0 : Int32)), .unset] [(.int (0 : Int32)), (.ref b19)])) _
      refine XS.lloadN X19.here hx rfl (hb hby at_23) rfl ?_
      show Steps p.tables e below (T19.setTop (mkF m 24 #[.val (.int p1), .val (.long q1), .second, .val (.int (3 : Int32)), .val (.ref b19), .val (.int (0 : Int32)), .unset] [(.long q1), (.int (0 : Int32)), (.ref b19)])) _
      refine XS.iconst X19.here hx rfl (hb hby at_24) ?_
      show Steps p.tables e below (T19.setTop (mkF m 25 #[.val (.int p1), .val (.long q1), .second, .val (.int (3 : Int32)), .val (.ref b19), .val (.int (0 : Int32)), .unset] [(.int (0 : Int32)), (.long q1), (.int (0 : Int32)), (.ref b19)])) _
      refine st20 _ ?_
      show Steps p.tables e below (T20.setTop (mkF m 28 #[.val (.int p1), .val (.long q1), .second, .val (.int (3 : Int32)), .val (.ref b19), .val (.int (0 : Int32)), .unset] [(.int (own_at q1 (0 : Int32))), (.int (0 : Int32)), (.ref b19)])) _
      refine st22 _ ?_
      show Steps p.tables e below (T22.setTop (mkF m 29 #[.val (.int p1), .val (.long q1), .second, .val (.int (3 : Int32)), .val (.ref b19), .val (.int (0 : Int32)), .unset] [])) _
      refine XS.iload X22.here hx rfl (hb hby at_29) rfl ?_
      show Steps p.tables e below (T22.setTop (mkF m 31 #[.val (.int p1), .val (.long q1), .second, .val (.int (3 : Int32)), .val (.ref b19), .val (.int (0 : Int32)), .unset] [(.int (0 : Int32))])) _
      refine XS.lloadN X22.here hx rfl (hb hby at_31) rfl ?_
      show Steps p.tables e below (T22.setTop (mkF m 32 #[.val (.int p1), .val (.long q1), .second, .val (.int (3 : Int32)), .val (.ref b19), .val (.int (0 : Int32)), .unset] [(.long q1), (.int (0 : Int32))])) _
      refine XS.iconst X22.here hx rfl (hb hby at_32) ?_
      show Steps p.tables e below (T22.setTop (mkF m 33 #[.val (.int p1), .val (.long q1), .second, .val (.int (3 : Int32)), .val (.ref b19), .val (.int (0 : Int32)), .unset] [(.int (0 : Int32)), (.long q1), (.int (0 : Int32))])) _
      refine st23 _ ?_
      show Steps p.tables e below (T23.setTop (mkF m 36 #[.val (.int p1), .val (.long q1), .second, .val (.int (3 : Int32)), .val (.ref b19), .val (.int (0 : Int32)), .unset] [(.int (own_at q1 (0 : Int32))), (.int (0 : Int32))])) _
      refine XS.iadd X23.here hx rfl (hb hby at_36) rfl ?_
      show Steps p.tables e below (T23.setTop (mkF m 37 #[.val (.int p1), .val (.long q1), .second, .val (.int (3 : Int32)), .val (.ref b19), .val (.int (0 : Int32)), .unset] [(.int ((0 : Int32) + (own_at q1 (0 : Int32))))])) _
      refine XS.istore X23.here hx rfl (hb hby at_37) rfl (l' := #[.val (.int p1), .val (.long q1), .second, .val (.int (3 : Int32)), .val (.ref b19), .val (.int ((0 : Int32) + (own_at q1 (0 : Int32)))), .unset]) rfl ?_
      show Steps p.tables e below (T23.setTop (mkF m 39 #[.val (.int p1), .val (.long q1), .second, .val (.int (3 : Int32)), .val (.ref b19), .val (.int ((0 : Int32) + (own_at q1 (0 : Int32)))), .unset] [])) _
      refine XS.iloadN X23.here hx rfl (hb hby at_39) rfl ?_
      show Steps p.tables e below (T23.setTop (mkF m 40 #[.val (.int p1), .val (.long q1), .second, .val (.int (3 : Int32)), .val (.ref b19), .val (.int ((0 : Int32) + (own_at q1 (0 : Int32)))), .unset] [(.int (3 : Int32))])) _
      refine XS.iconst X23.here hx rfl (hb hby at_40) ?_
      show Steps p.tables e below (T23.setTop (mkF m 41 #[.val (.int p1), .val (.long q1), .second, .val (.int (3 : Int32)), .val (.ref b19), .val (.int ((0 : Int32) + (own_at q1 (0 : Int32)))), .unset] [(.int (1 : Int32)), (.int (3 : Int32))])) _
      refine XS.icmpNo X23.here hx rfl (hb hby at_41) rfl (tlt (by decide : (1 : Int32) < (3 : Int32))).2.2.2 ?_
      show Steps p.tables e below (T23.setTop (mkF m 44 #[.val (.int p1), .val (.long q1), .second, .val (.int (3 : Int32)), .val (.ref b19), .val (.int ((0 : Int32) + (own_at q1 (0 : Int32)))), .unset] [])) _
      refine XS.aload X23.here hx rfl (hb hby at_44) rfl rfl ?_
      show Steps p.tables e below (T23.setTop (mkF m 46 #[.val (.int p1), .val (.long q1), .second, .val (.int (3 : Int32)), .val (.ref b19), .val (.int ((0 : Int32) + (own_at q1 (0 : Int32)))), .unset] [(.ref b19)])) _
      refine XS.iconst X23.here hx rfl (hb hby at_46) ?_
      show Steps p.tables e below (T23.setTop (mkF m 47 #[.val (.int p1), .val (.long q1), .second, .val (.int (3 : Int32)), .val (.ref b19), .val (.int ((0 : Int32) + (own_at q1 (0 : Int32)))), .unset] [(.int (1 : Int32)), (.ref b19)])) _
      refine XS.lloadN X23.here hx rfl (hb hby at_47) rfl ?_
      show Steps p.tables e below (T23.setTop (mkF m 48 #[.val (.int p1), .val (.long q1), .second, .val (.int (3 : Int32)), .val (.ref b19), .val (.int ((0 : Int32) + (own_at q1 (0 : Int32)))), .unset] [(.long q1), (.int (1 : Int32)), (.ref b19)])) _
      refine XS.iconst X23.here hx rfl (hb hby at_48) ?_
      show Steps p.tables e below (T23.setTop (mkF m 49 #[.val (.int p1), .val (.long q1), .second, .val (.int (3 : Int32)), .val (.ref b19), .val (.int ((0 : Int32) + (own_at q1 (0 : Int32)))), .unset] [(.int (1 : Int32)), (.long q1), (.int (1 : Int32)), (.ref b19)])) _
      refine st24 _ ?_
      show Steps p.tables e below (T24.setTop (mkF m 52 #[.val (.int p1), .val (.long q1), .second, .val (.int (3 : Int32)), .val (.ref b19), .val (.int ((0 : Int32) + (own_at q1 (0 : Int32)))), .unset] [(.int (own_at q1 (1 : Int32))), (.int (1 : Int32)), (.ref b19)])) _
      refine st26 _ ?_
      show Steps p.tables e below (T26.setTop (mkF m 53 #[.val (.int p1), .val (.long q1), .second, .val (.int (3 : Int32)), .val (.ref b19), .val (.int ((0 : Int32) + (own_at q1 (0 : Int32)))), .unset] [])) _
      refine XS.iload X26.here hx rfl (hb hby at_53) rfl ?_
      show Steps p.tables e below (T26.setTop (mkF m 55 #[.val (.int p1), .val (.long q1), .second, .val (.int (3 : Int32)), .val (.ref b19), .val (.int ((0 : Int32) + (own_at q1 (0 : Int32)))), .unset] [(.int ((0 : Int32) + (own_at q1 (0 : Int32))))])) _
      refine XS.lloadN X26.here hx rfl (hb hby at_55) rfl ?_
      show Steps p.tables e below (T26.setTop (mkF m 56 #[.val (.int p1), .val (.long q1), .second, .val (.int (3 : Int32)), .val (.ref b19), .val (.int ((0 : Int32) + (own_at q1 (0 : Int32)))), .unset] [(.long q1), (.int ((0 : Int32) + (own_at q1 (0 : Int32))))])) _
      refine XS.iconst X26.here hx rfl (hb hby at_56) ?_
      show Steps p.tables e below (T26.setTop (mkF m 57 #[.val (.int p1), .val (.long q1), .second, .val (.int (3 : Int32)), .val (.ref b19), .val (.int ((0 : Int32) + (own_at q1 (0 : Int32)))), .unset] [(.int (1 : Int32)), (.long q1), (.int ((0 : Int32) + (own_at q1 (0 : Int32))))])) _
      refine st27 _ ?_
      show Steps p.tables e below (T27.setTop (mkF m 60 #[.val (.int p1), .val (.long q1), .second, .val (.int (3 : Int32)), .val (.ref b19), .val (.int ((0 : Int32) + (own_at q1 (0 : Int32)))), .unset] [(.int (own_at q1 (1 : Int32))), (.int ((0 : Int32) + (own_at q1 (0 : Int32))))])) _
      refine XS.iadd X27.here hx rfl (hb hby at_60) rfl ?_
      show Steps p.tables e below (T27.setTop (mkF m 61 #[.val (.int p1), .val (.long q1), .second, .val (.int (3 : Int32)), .val (.ref b19), .val (.int ((0 : Int32) + (own_at q1 (0 : Int32)))), .unset] [(.int (((0 : Int32) + (own_at q1 (0 : Int32))) + (own_at q1 (1 : Int32))))])) _
      refine XS.istore X27.here hx rfl (hb hby at_61) rfl (l' := #[.val (.int p1), .val (.long q1), .second, .val (.int (3 : Int32)), .val (.ref b19), .val (.int (((0 : Int32) + (own_at q1 (0 : Int32))) + (own_at q1 (1 : Int32)))), .unset]) rfl ?_
      show Steps p.tables e below (T27.setTop (mkF m 63 #[.val (.int p1), .val (.long q1), .second, .val (.int (3 : Int32)), .val (.ref b19), .val (.int (((0 : Int32) + (own_at q1 (0 : Int32))) + (own_at q1 (1 : Int32)))), .unset] [])) _
      refine XS.iloadN X27.here hx rfl (hb hby at_63) rfl ?_
      show Steps p.tables e below (T27.setTop (mkF m 64 #[.val (.int p1), .val (.long q1), .second, .val (.int (3 : Int32)), .val (.ref b19), .val (.int (((0 : Int32) + (own_at q1 (0 : Int32))) + (own_at q1 (1 : Int32)))), .unset] [(.int (3 : Int32))])) _
      refine XS.iconst X27.here hx rfl (hb hby at_64) ?_
      show Steps p.tables e below (T27.setTop (mkF m 65 #[.val (.int p1), .val (.long q1), .second, .val (.int (3 : Int32)), .val (.ref b19), .val (.int (((0 : Int32) + (own_at q1 (0 : Int32))) + (own_at q1 (1 : Int32)))), .unset] [(.int (2 : Int32)), (.int (3 : Int32))])) _
      refine XS.icmpNo X27.here hx rfl (hb hby at_65) rfl (tlt (by decide : (2 : Int32) < (3 : Int32))).2.2.2 ?_
      show Steps p.tables e below (T27.setTop (mkF m 68 #[.val (.int p1), .val (.long q1), .second, .val (.int (3 : Int32)), .val (.ref b19), .val (.int (((0 : Int32) + (own_at q1 (0 : Int32))) + (own_at q1 (1 : Int32)))), .unset] [])) _
      refine XS.aload X27.here hx rfl (hb hby at_68) rfl rfl ?_
      show Steps p.tables e below (T27.setTop (mkF m 70 #[.val (.int p1), .val (.long q1), .second, .val (.int (3 : Int32)), .val (.ref b19), .val (.int (((0 : Int32) + (own_at q1 (0 : Int32))) + (own_at q1 (1 : Int32)))), .unset] [(.ref b19)])) _
      refine XS.iconst X27.here hx rfl (hb hby at_70) ?_
      show Steps p.tables e below (T27.setTop (mkF m 71 #[.val (.int p1), .val (.long q1), .second, .val (.int (3 : Int32)), .val (.ref b19), .val (.int (((0 : Int32) + (own_at q1 (0 : Int32))) + (own_at q1 (1 : Int32)))), .unset] [(.int (2 : Int32)), (.ref b19)])) _
      refine XS.lloadN X27.here hx rfl (hb hby at_71) rfl ?_
      show Steps p.tables e below (T27.setTop (mkF m 72 #[.val (.int p1), .val (.long q1), .second, .val (.int (3 : Int32)), .val (.ref b19), .val (.int (((0 : Int32) + (own_at q1 (0 : Int32))) + (own_at q1 (1 : Int32)))), .unset] [(.long q1), (.int (2 : Int32)), (.ref b19)])) _
      refine XS.iconst X27.here hx rfl (hb hby at_72) ?_
      show Steps p.tables e below (T27.setTop (mkF m 73 #[.val (.int p1), .val (.long q1), .second, .val (.int (3 : Int32)), .val (.ref b19), .val (.int (((0 : Int32) + (own_at q1 (0 : Int32))) + (own_at q1 (1 : Int32)))), .unset] [(.int (2 : Int32)), (.long q1), (.int (2 : Int32)), (.ref b19)])) _
      refine st28 _ ?_
      show Steps p.tables e below (T28.setTop (mkF m 76 #[.val (.int p1), .val (.long q1), .second, .val (.int (3 : Int32)), .val (.ref b19), .val (.int (((0 : Int32) + (own_at q1 (0 : Int32))) + (own_at q1 (1 : Int32)))), .unset] [(.int (own_at q1 (2 : Int32))), (.int (2 : Int32)), (.ref b19)])) _
      refine st30 _ ?_
      show Steps p.tables e below (T30.setTop (mkF m 77 #[.val (.int p1), .val (.long q1), .second, .val (.int (3 : Int32)), .val (.ref b19), .val (.int (((0 : Int32) + (own_at q1 (0 : Int32))) + (own_at q1 (1 : Int32)))), .unset] [])) _
      refine XS.iload X30.here hx rfl (hb hby at_77) rfl ?_
      show Steps p.tables e below (T30.setTop (mkF m 79 #[.val (.int p1), .val (.long q1), .second, .val (.int (3 : Int32)), .val (.ref b19), .val (.int (((0 : Int32) + (own_at q1 (0 : Int32))) + (own_at q1 (1 : Int32)))), .unset] [(.int (((0 : Int32) + (own_at q1 (0 : Int32))) + (own_at q1 (1 : Int32))))])) _
      refine XS.lloadN X30.here hx rfl (hb hby at_79) rfl ?_
      show Steps p.tables e below (T30.setTop (mkF m 80 #[.val (.int p1), .val (.long q1), .second, .val (.int (3 : Int32)), .val (.ref b19), .val (.int (((0 : Int32) + (own_at q1 (0 : Int32))) + (own_at q1 (1 : Int32)))), .unset] [(.long q1), (.int (((0 : Int32) + (own_at q1 (0 : Int32))) + (own_at q1 (1 : Int32))))])) _
      refine XS.iconst X30.here hx rfl (hb hby at_80) ?_
      show Steps p.tables e below (T30.setTop (mkF m 81 #[.val (.int p1), .val (.long q1), .second, .val (.int (3 : Int32)), .val (.ref b19), .val (.int (((0 : Int32) + (own_at q1 (0 : Int32))) + (own_at q1 (1 : Int32)))), .unset] [(.int (2 : Int32)), (.long q1), (.int (((0 : Int32) + (own_at q1 (0 : Int32))) + (own_at q1 (1 : Int32))))])) _
      refine st31 _ ?_
      show Steps p.tables e below (T31.setTop (mkF m 84 #[.val (.int p1), .val (.long q1), .second, .val (.int (3 : Int32)), .val (.ref b19), .val (.int (((0 : Int32) + (own_at q1 (0 : Int32))) + (own_at q1 (1 : Int32)))), .unset] [(.int (own_at q1 (2 : Int32))), (.int (((0 : Int32) + (own_at q1 (0 : Int32))) + (own_at q1 (1 : Int32))))])) _
      refine XS.iadd X31.here hx rfl (hb hby at_84) rfl ?_
      show Steps p.tables e below (T31.setTop (mkF m 85 #[.val (.int p1), .val (.long q1), .second, .val (.int (3 : Int32)), .val (.ref b19), .val (.int (((0 : Int32) + (own_at q1 (0 : Int32))) + (own_at q1 (1 : Int32)))), .unset] [(.int ((((0 : Int32) + (own_at q1 (0 : Int32))) + (own_at q1 (1 : Int32))) + (own_at q1 (2 : Int32))))])) _
      refine XS.istore X31.here hx rfl (hb hby at_85) rfl (l' := #[.val (.int p1), .val (.long q1), .second, .val (.int (3 : Int32)), .val (.ref b19), .val (.int ((((0 : Int32) + (own_at q1 (0 : Int32))) + (own_at q1 (1 : Int32))) + (own_at q1 (2 : Int32)))), .unset]) rfl ?_
      show Steps p.tables e below (T31.setTop (mkF m 87 #[.val (.int p1), .val (.long q1), .second, .val (.int (3 : Int32)), .val (.ref b19), .val (.int ((((0 : Int32) + (own_at q1 (0 : Int32))) + (own_at q1 (1 : Int32))) + (own_at q1 (2 : Int32)))), .unset] [])) _
      refine XS.iloadN X31.here hx rfl (hb hby at_87) rfl ?_
      show Steps p.tables e below (T31.setTop (mkF m 88 #[.val (.int p1), .val (.long q1), .second, .val (.int (3 : Int32)), .val (.ref b19), .val (.int ((((0 : Int32) + (own_at q1 (0 : Int32))) + (own_at q1 (1 : Int32))) + (own_at q1 (2 : Int32)))), .unset] [(.int (3 : Int32))])) _
      refine XS.iconst X31.here hx rfl (hb hby at_88) ?_
      show Steps p.tables e below (T31.setTop (mkF m 89 #[.val (.int p1), .val (.long q1), .second, .val (.int (3 : Int32)), .val (.ref b19), .val (.int ((((0 : Int32) + (own_at q1 (0 : Int32))) + (own_at q1 (1 : Int32))) + (own_at q1 (2 : Int32)))), .unset] [(.int (3 : Int32)), (.int (3 : Int32))])) _
      refine XS.icmpYes X31.here hx rfl (pc0 := 89) (pc' := 111) rfl (hb hby at_89) rfl (flt (by decide : ¬ ((3 : Int32) < (3 : Int32)))).2.2.2 (by decide) (by decide) ?_
      show Steps p.tables e below (T31.setTop (mkF m 111 #[.val (.int p1), .val (.long q1), .second, .val (.int (3 : Int32)), .val (.ref b19), .val (.int ((((0 : Int32) + (own_at q1 (0 : Int32))) + (own_at q1 (1 : Int32))) + (own_at q1 (2 : Int32)))), .unset] [])) _
      refine XS.iloadN X31.here hx rfl (hb hby at_111) rfl ?_
      show Steps p.tables e below (T31.setTop (mkF m 112 #[.val (.int p1), .val (.long q1), .second, .val (.int (3 : Int32)), .val (.ref b19), .val (.int ((((0 : Int32) + (own_at q1 (0 : Int32))) + (own_at q1 (1 : Int32))) + (own_at q1 (2 : Int32)))), .unset] [(.int (3 : Int32))])) _
      refine XS.iconst X31.here hx rfl (hb hby at_112) ?_
      show Steps p.tables e below (T31.setTop (mkF m 113 #[.val (.int p1), .val (.long q1), .second, .val (.int (3 : Int32)), .val (.ref b19), .val (.int ((((0 : Int32) + (own_at q1 (0 : Int32))) + (own_at q1 (1 : Int32))) + (own_at q1 (2 : Int32)))), .unset] [(.int (4 : Int32)), (.int (3 : Int32))])) _
      refine XS.icmpYes X31.here hx rfl (pc0 := 113) (pc' := 135) rfl (hb hby at_113) rfl (flt (by decide : ¬ ((4 : Int32) < (3 : Int32)))).2.2.2 (by decide) (by decide) ?_
      show Steps p.tables e below (T31.setTop (mkF m 135 #[.val (.int p1), .val (.long q1), .second, .val (.int (3 : Int32)), .val (.ref b19), .val (.int ((((0 : Int32) + (own_at q1 (0 : Int32))) + (own_at q1 (1 : Int32))) + (own_at q1 (2 : Int32)))), .unset] [])) _
      refine XS.iloadN X31.here hx rfl (hb hby at_135) rfl ?_
      show Steps p.tables e below (T31.setTop (mkF m 136 #[.val (.int p1), .val (.long q1), .second, .val (.int (3 : Int32)), .val (.ref b19), .val (.int ((((0 : Int32) + (own_at q1 (0 : Int32))) + (own_at q1 (1 : Int32))) + (own_at q1 (2 : Int32)))), .unset] [(.int (3 : Int32))])) _
      refine XS.iconst X31.here hx rfl (hb hby at_136) ?_
      show Steps p.tables e below (T31.setTop (mkF m 137 #[.val (.int p1), .val (.long q1), .second, .val (.int (3 : Int32)), .val (.ref b19), .val (.int ((((0 : Int32) + (own_at q1 (0 : Int32))) + (own_at q1 (1 : Int32))) + (own_at q1 (2 : Int32)))), .unset] [(.int (5 : Int32)), (.int (3 : Int32))])) _
      refine XS.icmpYes X31.here hx rfl (pc0 := 137) (pc' := 159) rfl (hb hby at_137) rfl (flt (by decide : ¬ ((5 : Int32) < (3 : Int32)))).2.2.2 (by decide) (by decide) ?_
      show Steps p.tables e below (T31.setTop (mkF m 159 #[.val (.int p1), .val (.long q1), .second, .val (.int (3 : Int32)), .val (.ref b19), .val (.int ((((0 : Int32) + (own_at q1 (0 : Int32))) + (own_at q1 (1 : Int32))) + (own_at q1 (2 : Int32)))), .unset] [])) _
      refine XS.iloadN X31.here hx rfl (hb hby at_159) rfl ?_
      show Steps p.tables e below (T31.setTop (mkF m 160 #[.val (.int p1), .val (.long q1), .second, .val (.int (3 : Int32)), .val (.ref b19), .val (.int ((((0 : Int32) + (own_at q1 (0 : Int32))) + (own_at q1 (1 : Int32))) + (own_at q1 (2 : Int32)))), .unset] [(.int (3 : Int32))])) _
      refine XS.bipush X31.here hx rfl (hb hby at_160) ?_
      show Steps p.tables e below (T31.setTop (mkF m 162 #[.val (.int p1), .val (.long q1), .second, .val (.int (3 : Int32)), .val (.ref b19), .val (.int ((((0 : Int32) + (own_at q1 (0 : Int32))) + (own_at q1 (1 : Int32))) + (own_at q1 (2 : Int32)))), .unset] [(.int (6 : Int32)), (.int (3 : Int32))])) _
      refine XS.icmpYes X31.here hx rfl (pc0 := 162) (pc' := 187) rfl (hb hby at_162) rfl (flt (by decide : ¬ ((6 : Int32) < (3 : Int32)))).2.2.2 (by decide) (by decide) ?_
      show Steps p.tables e below (T31.setTop (mkF m 187 #[.val (.int p1), .val (.long q1), .second, .val (.int (3 : Int32)), .val (.ref b19), .val (.int ((((0 : Int32) + (own_at q1 (0 : Int32))) + (own_at q1 (1 : Int32))) + (own_at q1 (2 : Int32)))), .unset] [])) _
      refine XS.iloadN X31.here hx rfl (hb hby at_187) rfl ?_
      show Steps p.tables e below (T31.setTop (mkF m 188 #[.val (.int p1), .val (.long q1), .second, .val (.int (3 : Int32)), .val (.ref b19), .val (.int ((((0 : Int32) + (own_at q1 (0 : Int32))) + (own_at q1 (1 : Int32))) + (own_at q1 (2 : Int32)))), .unset] [(.int (3 : Int32))])) _
      refine XS.bipush X31.here hx rfl (hb hby at_188) ?_
      show Steps p.tables e below (T31.setTop (mkF m 190 #[.val (.int p1), .val (.long q1), .second, .val (.int (3 : Int32)), .val (.ref b19), .val (.int ((((0 : Int32) + (own_at q1 (0 : Int32))) + (own_at q1 (1 : Int32))) + (own_at q1 (2 : Int32)))), .unset] [(.int (7 : Int32)), (.int (3 : Int32))])) _
      refine XS.icmpYes X31.here hx rfl (pc0 := 190) (pc' := 215) rfl (hb hby at_190) rfl (flt (by decide : ¬ ((7 : Int32) < (3 : Int32)))).2.2.2 (by decide) (by decide) ?_
      show Steps p.tables e below (T31.setTop (mkF m 215 #[.val (.int p1), .val (.long q1), .second, .val (.int (3 : Int32)), .val (.ref b19), .val (.int ((((0 : Int32) + (own_at q1 (0 : Int32))) + (own_at q1 (1 : Int32))) + (own_at q1 (2 : Int32)))), .unset] [])) _
      refine XS.aload X31.here hx rfl (hb hby at_215) rfl rfl ?_
      show Steps p.tables e below (T31.setTop (mkF m 217 #[.val (.int p1), .val (.long q1), .second, .val (.int (3 : Int32)), .val (.ref b19), .val (.int ((((0 : Int32) + (own_at q1 (0 : Int32))) + (own_at q1 (1 : Int32))) + (own_at q1 (2 : Int32)))), .unset] [(.ref b19)])) _
      refine st32 _ ?_
      show Steps p.tables e below (T32.setTop (mkF m 220 #[.val (.int p1), .val (.long q1), .second, .val (.int (3 : Int32)), .val (.ref b19), .val (.int ((((0 : Int32) + (own_at q1 (0 : Int32))) + (own_at q1 (1 : Int32))) + (own_at q1 (2 : Int32)))), .unset] [(.int (own_cs [(own_at q1 (0 : Int32)), (own_at q1 (1 : Int32)), (own_at q1 (2 : Int32))]))])) _
      refine XS.istore X32.here hx rfl (hb hby at_220) rfl (l' := #[.val (.int p1), .val (.long q1), .second, .val (.int (3 : Int32)), .val (.ref b19), .val (.int ((((0 : Int32) + (own_at q1 (0 : Int32))) + (own_at q1 (1 : Int32))) + (own_at q1 (2 : Int32)))), .val (.int (own_cs [(own_at q1 (0 : Int32)), (own_at q1 (1 : Int32)), (own_at q1 (2 : Int32))]))]) rfl ?_
      show Steps p.tables e below (T32.setTop (mkF m 222 #[.val (.int p1), .val (.long q1), .second, .val (.int (3 : Int32)), .val (.ref b19), .val (.int ((((0 : Int32) + (own_at q1 (0 : Int32))) + (own_at q1 (1 : Int32))) + (own_at q1 (2 : Int32)))), .val (.int (own_cs [(own_at q1 (0 : Int32)), (own_at q1 (1 : Int32)), (own_at q1 (2 : Int32))]))] [])) _
      refine XS.iload X32.here hx rfl (hb hby at_222) rfl ?_
      show Steps p.tables e below (T32.setTop (mkF m 224 #[.val (.int p1), .val (.long q1), .second, .val (.int (3 : Int32)), .val (.ref b19), .val (.int ((((0 : Int32) + (own_at q1 (0 : Int32))) + (own_at q1 (1 : Int32))) + (own_at q1 (2 : Int32)))), .val (.int (own_cs [(own_at q1 (0 : Int32)), (own_at q1 (1 : Int32)), (own_at q1 (2 : Int32))]))] [(.int (own_cs [(own_at q1 (0 : Int32)), (own_at q1 (1 : Int32)), (own_at q1 (2 : Int32))]))])) _
      refine XS.iload X32.here hx rfl (hb hby at_224) rfl ?_
      show Steps p.tables e below (T32.setTop (mkF m 226 #[.val (.int p1), .val (.long q1), .second, .val (.int (3 : Int32)), .val (.ref b19), .val (.int ((((0 : Int32) + (own_at q1 (0 : Int32))) + (own_at q1 (1 : Int32))) + (own_at q1 (2 : Int32)))), .val (.int (own_cs [(own_at q1 (0 : Int32)), (own_at q1 (1 : Int32)), (own_at q1 (2 : Int32))]))] [(.int ((((0 : Int32) + (own_at q1 (0 : Int32))) + (own_at q1 (1 : Int32))) + (own_at q1 (2 : Int32)))), (.int (own_cs [(own_at q1 (0 : Int32)), (own_at q1 (1 : Int32)), (own_at q1 (2 : Int32))]))])) _
      refine XS.sipush X32.here hx rfl (hb hby at_226) ?_
      show Steps p.tables e below (T32.setTop (mkF m 229 #[.val (.int p1), .val (.long q1), .second, .val (.int (3 : Int32)), .val (.ref b19), .val (.int ((((0 : Int32) + (own_at q1 (0 : Int32))) + (own_at q1 (1 : Int32))) + (own_at q1 (2 : Int32)))), .val (.int (own_cs [(own_at q1 (0 : Int32)), (own_at q1 (1 : Int32)), (own_at q1 (2 : Int32))]))] [(.int (255 : Int32)), (.int ((((0 : Int32) + (own_at q1 (0 : Int32))) + (own_at q1 (1 : Int32))) + (own_at q1 (2 : Int32)))), (.int (own_cs [(own_at q1 (0 : Int32)), (own_at q1 (1 : Int32)), (own_at q1 (2 : Int32))]))])) _
      refine XS.iand X32.here hx rfl (hb hby at_229) rfl ?_
      show Steps p.tables e below (T32.setTop (mkF m 230 #[.val (.int p1), .val (.long q1), .second, .val (.int (3 : Int32)), .val (.ref b19), .val (.int ((((0 : Int32) + (own_at q1 (0 : Int32))) + (own_at q1 (1 : Int32))) + (own_at q1 (2 : Int32)))), .val (.int (own_cs [(own_at q1 (0 : Int32)), (own_at q1 (1 : Int32)), (own_at q1 (2 : Int32))]))] [(.int (((((0 : Int32) + (own_at q1 (0 : Int32))) + (own_at q1 (1 : Int32))) + (own_at q1 (2 : Int32))) &&& (255 : Int32))), (.int (own_cs [(own_at q1 (0 : Int32)), (own_at q1 (1 : Int32)), (own_at q1 (2 : Int32))]))])) _
      refine XS.icmpNo X32.here hx rfl (hb hby at_230) rfl (teq (own_key [(own_at q1 (0 : Int32)), (own_at q1 (1 : Int32)), (own_at q1 (2 : Int32))] : (own_cs [(own_at q1 (0 : Int32)), (own_at q1 (1 : Int32)), (own_at q1 (2 : Int32))]) = (((((0 : Int32) + (own_at q1 (0 : Int32))) + (own_at q1 (1 : Int32))) + (own_at q1 (2 : Int32))) &&& (255 : Int32)))).2 ?_
      show Steps p.tables e below (T32.setTop (mkF m 233 #[.val (.int p1), .val (.long q1), .second, .val (.int (3 : Int32)), .val (.ref b19), .val (.int ((((0 : Int32) + (own_at q1 (0 : Int32))) + (own_at q1 (1 : Int32))) + (own_at q1 (2 : Int32)))), .val (.int (own_cs [(own_at q1 (0 : Int32)), (own_at q1 (1 : Int32)), (own_at q1 (2 : Int32))]))] [])) _
      refine XS.iconst X32.here hx rfl (hb hby at_233) ?_
      show Steps p.tables e below (T32.setTop (mkF m 234 #[.val (.int p1), .val (.long q1), .second, .val (.int (3 : Int32)), .val (.ref b19), .val (.int ((((0 : Int32) + (own_at q1 (0 : Int32))) + (own_at q1 (1 : Int32))) + (own_at q1 (2 : Int32)))), .val (.int (own_cs [(own_at q1 (0 : Int32)), (own_at q1 (1 : Int32)), (own_at q1 (2 : Int32))]))] [(.int (1 : Int32))])) _
      refine XS.goto X32.here hx rfl (pc0 := 234) (pc' := 238) rfl (hb hby at_234) (by decide) (by decide) ?_
      show Steps p.tables e below (T32.setTop (mkF m 238 #[.val (.int p1), .val (.long q1), .second, .val (.int (3 : Int32)), .val (.ref b19), .val (.int ((((0 : Int32) + (own_at q1 (0 : Int32))) + (own_at q1 (1 : Int32))) + (own_at q1 (2 : Int32)))), .val (.int (own_cs [(own_at q1 (0 : Int32)), (own_at q1 (1 : Int32)), (own_at q1 (2 : Int32))]))] [(.int (1 : Int32))])) _
      exact retN X32 hx (t := .boolean) Bd.returns (by simp) (hb hby at_238) hr
    · show Qown_law Z p1 q1 h0 n0 _ T32.heap _
      rw [e32]
      exact ⟨rfl, N32⟩
  · obtain ⟨T33, h33, k33, X33, e33, E33, A33, st33⟩ := newP X0 hx hZ (hw _ (List.mem_of_getElem? (i := 1) rfl)) e0 (g := (mkF m 9 #[.val (.int p1), .val (.long q1), .second, .val (.int (4 : Int32)), .unset, .unset, .unset] [(.int (4 : Int32))])) rfl (hb hby at_9) rfl (by decide) (cap := 4) (by decide) (by decide) (by decide) (by decide)
    obtain ⟨b33, g33⟩ : ∃ z, z = h0.size := ⟨_, rfl⟩
    rw [← g33] at A33 st33
    have V33 : Arv Z h33 b33 k33 .byte (4 : Int32) [(.int (0 : Int32)), (.int (0 : Int32)), (.int (0 : Int32)), (.int (0 : Int32))] (.int (0 : Int32)) := (Arv.new A33 (by decide)).pad (pad_rep [] (.int (0 : Int32)) 4)
    have g_b33 : n0 ≤ b33 := Nat.le_trans Z0 (Nat.le_of_eq g33.symm)
    have sz_b33 : h0.size ≤ b33 := Nat.le_trans (Keep.refl h0 []).1 (Nat.le_of_eq g33.symm)
    have Z33 : n0 ≤ h33.size := Nat.le_trans Z0 E33.1
    have K33 : Keep h0 h33 [] := (Keep.refl h0 []).ext E33
    obtain ⟨_, _, ⟨T34, L34, k34, n34⟩, -, X34, ⟨Lc34, hQ34, l34, y34, z34⟩, st34⟩ := Jvm.LawKit.callS X33 hx (y := (⟨"com/example/assaybus/assaybus/link/FrameChecksumPinLaw", "at", "(JI)B"⟩ : MethodName)) hown (mvT hZ (hw _ (List.mem_of_getElem? (i := 6) rfl))) (mvT hZ (hw _ (List.mem_of_getElem? (i := 7) rfl))) (mvT hZ (hw _ (List.mem_of_getElem? (i := 8) rfl))) (mvT hZ (hw _ (List.mem_of_getElem? (i := 9) rfl))) (by decide) (backOf (W := 2) (own_mat l Z a0 hw [] q1 (0 : Int32)  h33 n0 Z33 ) hZ (hw _ (List.mem_of_getElem? (i := 9) rfl)) (hw _ (List.mem_of_getElem? (i := 8) rfl)) (by decide) (by decide)) (g := (mkF m 25 #[.val (.int p1), .val (.long q1), .second, .val (.int (4 : Int32)), .val (.ref b33), .val (.int (0 : Int32)), .unset] [(.int (0 : Int32)), (.long q1), (.int (0 : Int32)), (.ref b33)])) rfl (by rw [hml]; rfl) (argsL := [(.long q1), (.int (0 : Int32))]) (rest := [(.int (0 : Int32)), (.ref b33)]) (lenOf pd__JI_B rfl) rfl (by show 2 * 0 + _ ≤ _; exact Nat.le_of_eq rfl) (hb hby at_25) (fun _ _ => ⟨rfl, e33, (by decide : 1 + 0 ≤ _), (by decide : 4 + 0 ≤ _)⟩)
    dsimp only [Pt.U, Pt.locs, Pt.cells, Pt.slots] at X34 l34 y34 z34 st34 hQ34
    replace X34 := X34.more (Nat.le_of_eq (show k34 = 1 from y34)) (Nat.le_of_eq (show n34 = 4 from z34))
    obtain ⟨rfl, Nq34, e34⟩ := hQ34
    have N34 : Fr n0 L34 := by rw [l34]; exact Fr.app N0 Nq34
    obtain ⟨cl35, Ar35, qc35, S35, Nn35, H35, G35⟩ := id V33
    have hin35 : ¬ ((0 : Int32) < 0 ∨ cl35.slots.size ≤ ((0 : Int32)).toNatClampNeg) := inb_of S35 ⟨by decide, by decide⟩
    obtain ⟨T36, h36, X36, e36, W36, st36⟩ := stB X34 hx hZ e34 Ar35 (j := (0 : Int32)) hin35 (g := (mkF m 28 #[.val (.int p1), .val (.long q1), .second, .val (.int (4 : Int32)), .val (.ref b33), .val (.int (0 : Int32)), .unset] [(.int (own_at q1 (0 : Int32))), (.int (0 : Int32)), (.ref b33)])) rfl rfl (hb hby at_28)
    have V36 : Arv Z h36 b33 k33 .byte (4 : Int32) [(.int (nar .byte (own_at q1 (0 : Int32)))), (.int (0 : Int32)), (.int (0 : Int32)), (.int (0 : Int32))] (.int (0 : Int32)) := Arv.set Ar35 qc35 S35 Nn35 H35 G35 (fits_nar_byte _) W36 0 rfl (Nat.le_of_ble_eq_true rfl)
    have V36v : Arv Z h36 b33 k33 .byte (4 : Int32) [(.int (own_at q1 (0 : Int32))), (.int (0 : Int32)), (.int (0 : Int32)), (.int (0 : Int32))] (.int (0 : Int32)) := by have q := V36; rw [own_nara] at q; exact q
    have K36 : Keep h0 h36 [] := K33.wr W36 (Or.inr sz_b33)
    have N36 := Fr.snoc X36 N34 g_b33
    have Z36 : n0 ≤ h36.size := Nat.le_trans Z33 (Keep.of_wr W36).1
    obtain ⟨_, _, ⟨T37, L37, k37, n37⟩, -, X37, ⟨Lc37, hQ37, l37, y37, z37⟩, st37⟩ := Jvm.LawKit.callS X36 hx (y := (⟨"com/example/assaybus/assaybus/link/FrameChecksumPinLaw", "at", "(JI)B"⟩ : MethodName)) hown (mvT hZ (hw _ (List.mem_of_getElem? (i := 6) rfl))) (mvT hZ (hw _ (List.mem_of_getElem? (i := 7) rfl))) (mvT hZ (hw _ (List.mem_of_getElem? (i := 8) rfl))) (mvT hZ (hw _ (List.mem_of_getElem? (i := 9) rfl))) (by decide) (backOf (W := 1) (own_mat l Z a0 hw [] q1 (0 : Int32)  h36 n0 Z36 ) hZ (hw _ (List.mem_of_getElem? (i := 9) rfl)) (hw _ (List.mem_of_getElem? (i := 8) rfl)) (by decide) (by decide)) (g := (mkF m 33 #[.val (.int p1), .val (.long q1), .second, .val (.int (4 : Int32)), .val (.ref b33), .val (.int (0 : Int32)), .unset] [(.int (0 : Int32)), (.long q1), (.int (0 : Int32))])) rfl (by rw [hml]; rfl) (argsL := [(.long q1), (.int (0 : Int32))]) (rest := [(.int (0 : Int32))]) (lenOf pd__JI_B rfl) rfl (by show 2 * 0 + _ ≤ _; exact Nat.le_of_eq rfl) (hb hby at_33) (fun _ _ => ⟨rfl, e36, (by decide : 1 + 0 ≤ _), (by decide : 4 + 0 ≤ _)⟩)
    dsimp only [Pt.U, Pt.locs, Pt.cells, Pt.slots] at X37 l37 y37 z37 st37 hQ37
    replace X37 := X37.more (Nat.le_of_eq (show k37 = 1 from y37)) (Nat.le_of_eq (show n37 = 4 from z37))
    obtain ⟨rfl, Nq37, e37⟩ := hQ37
    have N37 : Fr n0 L37 := by rw [l37]; exact Fr.app N36 Nq37
    obtain ⟨_, _, ⟨T38, L38, k38, n38⟩, -, X38, ⟨Lc38, hQ38, l38, y38, z38⟩, st38⟩ := Jvm.LawKit.callS X37 hx (y := (⟨"com/example/assaybus/assaybus/link/FrameChecksumPinLaw", "at", "(JI)B"⟩ : MethodName)) hown (mvT hZ (hw _ (List.mem_of_getElem? (i := 6) rfl))) (mvT hZ (hw _ (List.mem_of_getElem? (i := 7) rfl))) (mvT hZ (hw _ (List.mem_of_getElem? (i := 8) rfl))) (mvT hZ (hw _ (List.mem_of_getElem? (i := 9) rfl))) (by decide) (backOf (W := 2) (own_mat l Z a0 hw [] q1 (1 : Int32)  h36 n0 Z36 ) hZ (hw _ (List.mem_of_getElem? (i := 9) rfl)) (hw _ (List.mem_of_getElem? (i := 8) rfl)) (by decide) (by decide)) (g := (mkF m 49 #[.val (.int p1), .val (.long q1), .second, .val (.int (4 : Int32)), .val (.ref b33), .val (.int ((0 : Int32) + (own_at q1 (0 : Int32)))), .unset] [(.int (1 : Int32)), (.long q1), (.int (1 : Int32)), (.ref b33)])) rfl (by rw [hml]; rfl) (argsL := [(.long q1), (.int (1 : Int32))]) (rest := [(.int (1 : Int32)), (.ref b33)]) (lenOf pd__JI_B rfl) rfl (by show 2 * 0 + _ ≤ _; exact Nat.le_of_eq rfl) (hb hby at_49) (fun _ _ => ⟨rfl, e37, (by decide : 1 + 0 ≤ _), (by decide : 4 + 0 ≤ _)⟩)
    dsimp only [Pt.U, Pt.locs, Pt.cells, Pt.slots] at X38 l38 y38 z38 st38 hQ38
    replace X38 := X38.more (Nat.le_of_eq (show k38 = 1 from y38)) (Nat.le_of_eq (show n38 = 4 from z38))
    obtain ⟨rfl, Nq38, e38⟩ := hQ38
    have N38 : Fr n0 L38 := by rw [l38]; exact Fr.app N37 Nq38
    obtain ⟨cl39, Ar39, qc39, S39, Nn39, H39, G39⟩ := id V36v
    have hin39 : ¬ ((1 : Int32) < 0 ∨ cl39.slots.size ≤ ((1 : Int32)).toNatClampNeg) := inb_of S39 ⟨by decide, by decide⟩
    obtain ⟨T40, h40, X40, e40, W40, st40⟩ := stB X38 hx hZ e38 Ar39 (j := (1 : Int32)) hin39 (g := (mkF m 52 #[.val (.int p1), .val (.long q1), .second, .val (.int (4 : Int32)), .val (.ref b33), .val (.int ((0 : Int32) + (own_at q1 (0 : Int32)))), .unset] [(.int (own_at q1 (1 : Int32))), (.int (1 : Int32)), (.ref b33)])) rfl rfl (hb hby at_52)
    have V40 : Arv Z h40 b33 k33 .byte (4 : Int32) [(.int (own_at q1 (0 : Int32))), (.int (nar .byte (own_at q1 (1 : Int32)))), (.int (0 : Int32)), (.int (0 : Int32))] (.int (0 : Int32)) := Arv.set Ar39 qc39 S39 Nn39 H39 G39 (fits_nar_byte _) W40 1 rfl (Nat.le_of_ble_eq_true rfl)
    have V40v : Arv Z h40 b33 k33 .byte (4 : Int32) [(.int (own_at q1 (0 : Int32))), (.int (own_at q1 (1 : Int32))), (.int (0 : Int32)), (.int (0 : Int32))] (.int (0 : Int32)) := by have q := V40; rw [own_nara] at q; exact q
    have K40 : Keep h0 h40 [] := K36.wr W40 (Or.inr sz_b33)
    have N40 := Fr.snoc X40 N38 g_b33
    have Z40 : n0 ≤ h40.size := Nat.le_trans Z36 (Keep.of_wr W40).1
    obtain ⟨_, _, ⟨T41, L41, k41, n41⟩, -, X41, ⟨Lc41, hQ41, l41, y41, z41⟩, st41⟩ := Jvm.LawKit.callS X40 hx (y := (⟨"com/example/assaybus/assaybus/link/FrameChecksumPinLaw", "at", "(JI)B"⟩ : MethodName)) hown (mvT hZ (hw _ (List.mem_of_getElem? (i := 6) rfl))) (mvT hZ (hw _ (List.mem_of_getElem? (i := 7) rfl))) (mvT hZ (hw _ (List.mem_of_getElem? (i := 8) rfl))) (mvT hZ (hw _ (List.mem_of_getElem? (i := 9) rfl))) (by decide) (backOf (W := 1) (own_mat l Z a0 hw [] q1 (1 : Int32)  h40 n0 Z40 ) hZ (hw _ (List.mem_of_getElem? (i := 9) rfl)) (hw _ (List.mem_of_getElem? (i := 8) rfl)) (by decide) (by decide)) (g := (mkF m 57 #[.val (.int p1), .val (.long q1), .second, .val (.int (4 : Int32)), .val (.ref b33), .val (.int ((0 : Int32) + (own_at q1 (0 : Int32)))), .unset] [(.int (1 : Int32)), (.long q1), (.int ((0 : Int32) + (own_at q1 (0 : Int32))))])) rfl (by rw [hml]; rfl) (argsL := [(.long q1), (.int (1 : Int32))]) (rest := [(.int ((0 : Int32) + (own_at q1 (0 : Int32))))]) (lenOf pd__JI_B rfl) rfl (by show 2 * 0 + _ ≤ _; exact Nat.le_of_eq rfl) (hb hby at_57) (fun _ _ => ⟨rfl, e40, (by decide : 1 + 0 ≤ _), (by decide : 4 + 0 ≤ _)⟩)
    dsimp only [Pt.U, Pt.locs, Pt.cells, Pt.slots] at X41 l41 y41 z41 st41 hQ41
    replace X41 := X41.more (Nat.le_of_eq (show k41 = 1 from y41)) (Nat.le_of_eq (show n41 = 4 from z41))
    obtain ⟨rfl, Nq41, e41⟩ := hQ41
    have N41 : Fr n0 L41 := by rw [l41]; exact Fr.app N40 Nq41
    obtain ⟨_, _, ⟨T42, L42, k42, n42⟩, -, X42, ⟨Lc42, hQ42, l42, y42, z42⟩, st42⟩ := Jvm.LawKit.callS X41 hx (y := (⟨"com/example/assaybus/assaybus/link/FrameChecksumPinLaw", "at", "(JI)B"⟩ : MethodName)) hown (mvT hZ (hw _ (List.mem_of_getElem? (i := 6) rfl))) (mvT hZ (hw _ (List.mem_of_getElem? (i := 7) rfl))) (mvT hZ (hw _ (List.mem_of_getElem? (i := 8) rfl))) (mvT hZ (hw _ (List.mem_of_getElem? (i := 9) rfl))) (by decide) (backOf (W := 2) (own_mat l Z a0 hw [] q1 (2 : Int32)  h40 n0 Z40 ) hZ (hw _ (List.mem_of_getElem? (i := 9) rfl)) (hw _ (List.mem_of_getElem? (i := 8) rfl)) (by decide) (by decide)) (g := (mkF m 73 #[.val (.int p1), .val (.long q1), .second, .val (.int (4 : Int32)), .val (.ref b33), .val (.int (((0 : Int32) + (own_at q1 (0 : Int32))) + (own_at q1 (1 : Int32)))), .unset] [(.int (2 : Int32)), (.long q1), (.int (2 : Int32)), (.ref b33)])) rfl (by rw [hml]; rfl) (argsL := [(.long q1), (.int (2 : Int32))]) (rest := [(.int (2 : Int32)), (.ref b33)]) (lenOf pd__JI_B rfl) rfl (by show 2 * 0 + _ ≤ _; exact Nat.le_of_eq rfl) (hb hby at_73) (fun _ _ => ⟨rfl, e41, (by decide : 1 + 0 ≤ _), (by decide : 4 + 0 ≤ _)⟩)
    dsimp only [Pt.U, Pt.locs, Pt.cells, Pt.slots] at X42 l42 y42 z42 st42 hQ42
    replace X42 := X42.more (Nat.le_of_eq (show k42 = 1 from y42)) (Nat.le_of_eq (show n42 = 4 from z42))
    obtain ⟨rfl, Nq42, e42⟩ := hQ42
    have N42 : Fr n0 L42 := by rw [l42]; exact Fr.app N41 Nq42
    obtain ⟨cl43, Ar43, qc43, S43, Nn43, H43, G43⟩ := id V40v
    have hin43 : ¬ ((2 : Int32) < 0 ∨ cl43.slots.size ≤ ((2 : Int32)).toNatClampNeg) := inb_of S43 ⟨by decide, by decide⟩
    obtain ⟨T44, h44, X44, e44, W44, st44⟩ := stB X42 hx hZ e42 Ar43 (j := (2 : Int32)) hin43 (g := (mkF m 76 #[.val (.int p1), .val (.long q1), .second, .val (.int (4 : Int32)), .val (.ref b33), .val (.int (((0 : Int32) + (own_at q1 (0 : Int32))) + (own_at q1 (1 : Int32)))), .unset] [(.int (own_at q1 (2 : Int32))), (.int (2 : Int32)), (.ref b33)])) rfl rfl (hb hby at_76)
    have V44 : Arv Z h44 b33 k33 .byte (4 : Int32) [(.int (own_at q1 (0 : Int32))), (.int (own_at q1 (1 : Int32))), (.int (nar .byte (own_at q1 (2 : Int32)))), (.int (0 : Int32))] (.int (0 : Int32)) := Arv.set Ar43 qc43 S43 Nn43 H43 G43 (fits_nar_byte _) W44 2 rfl (Nat.le_of_ble_eq_true rfl)
    have V44v : Arv Z h44 b33 k33 .byte (4 : Int32) [(.int (own_at q1 (0 : Int32))), (.int (own_at q1 (1 : Int32))), (.int (own_at q1 (2 : Int32))), (.int (0 : Int32))] (.int (0 : Int32)) := by have q := V44; rw [own_nara] at q; exact q
    have K44 : Keep h0 h44 [] := K40.wr W44 (Or.inr sz_b33)
    have N44 := Fr.snoc X44 N42 g_b33
    have Z44 : n0 ≤ h44.size := Nat.le_trans Z40 (Keep.of_wr W44).1
    obtain ⟨_, _, ⟨T45, L45, k45, n45⟩, -, X45, ⟨Lc45, hQ45, l45, y45, z45⟩, st45⟩ := Jvm.LawKit.callS X44 hx (y := (⟨"com/example/assaybus/assaybus/link/FrameChecksumPinLaw", "at", "(JI)B"⟩ : MethodName)) hown (mvT hZ (hw _ (List.mem_of_getElem? (i := 6) rfl))) (mvT hZ (hw _ (List.mem_of_getElem? (i := 7) rfl))) (mvT hZ (hw _ (List.mem_of_getElem? (i := 8) rfl))) (mvT hZ (hw _ (List.mem_of_getElem? (i := 9) rfl))) (by decide) (backOf (W := 1) (own_mat l Z a0 hw [] q1 (2 : Int32)  h44 n0 Z44 ) hZ (hw _ (List.mem_of_getElem? (i := 9) rfl)) (hw _ (List.mem_of_getElem? (i := 8) rfl)) (by decide) (by decide)) (g := (mkF m 81 #[.val (.int p1), .val (.long q1), .second, .val (.int (4 : Int32)), .val (.ref b33), .val (.int (((0 : Int32) + (own_at q1 (0 : Int32))) + (own_at q1 (1 : Int32)))), .unset] [(.int (2 : Int32)), (.long q1), (.int (((0 : Int32) + (own_at q1 (0 : Int32))) + (own_at q1 (1 : Int32))))])) rfl (by rw [hml]; rfl) (argsL := [(.long q1), (.int (2 : Int32))]) (rest := [(.int (((0 : Int32) + (own_at q1 (0 : Int32))) + (own_at q1 (1 : Int32))))]) (lenOf pd__JI_B rfl) rfl (by show 2 * 0 + _ ≤ _; exact Nat.le_of_eq rfl) (hb hby at_81) (fun _ _ => ⟨rfl, e44, (by decide : 1 + 0 ≤ _), (by decide : 4 + 0 ≤ _)⟩)
    dsimp only [Pt.U, Pt.locs, Pt.cells, Pt.slots] at X45 l45 y45 z45 st45 hQ45
    replace X45 := X45.more (Nat.le_of_eq (show k45 = 1 from y45)) (Nat.le_of_eq (show n45 = 4 from z45))
    obtain ⟨rfl, Nq45, e45⟩ := hQ45
    have N45 : Fr n0 L45 := by rw [l45]; exact Fr.app N44 Nq45
    obtain ⟨_, _, ⟨T46, L46, k46, n46⟩, -, X46, ⟨Lc46, hQ46, l46, y46, z46⟩, st46⟩ := Jvm.LawKit.callS X45 hx (y := (⟨"com/example/assaybus/assaybus/link/FrameChecksumPinLaw", "at", "(JI)B"⟩ : MethodName)) hown (mvT hZ (hw _ (List.mem_of_getElem? (i := 6) rfl))) (mvT hZ (hw _ (List.mem_of_getElem? (i := 7) rfl))) (mvT hZ (hw _ (List.mem_of_getElem? (i := 8) rfl))) (mvT hZ (hw _ (List.mem_of_getElem? (i := 9) rfl))) (by decide) (backOf (W := 2) (own_mat l Z a0 hw [] q1 (3 : Int32)  h44 n0 Z44 ) hZ (hw _ (List.mem_of_getElem? (i := 9) rfl)) (hw _ (List.mem_of_getElem? (i := 8) rfl)) (by decide) (by decide)) (g := (mkF m 97 #[.val (.int p1), .val (.long q1), .second, .val (.int (4 : Int32)), .val (.ref b33), .val (.int ((((0 : Int32) + (own_at q1 (0 : Int32))) + (own_at q1 (1 : Int32))) + (own_at q1 (2 : Int32)))), .unset] [(.int (3 : Int32)), (.long q1), (.int (3 : Int32)), (.ref b33)])) rfl (by rw [hml]; rfl) (argsL := [(.long q1), (.int (3 : Int32))]) (rest := [(.int (3 : Int32)), (.ref b33)]) (lenOf pd__JI_B rfl) rfl (by show 2 * 0 + _ ≤ _; exact Nat.le_of_eq rfl) (hb hby at_97) (fun _ _ => ⟨rfl, e45, (by decide : 1 + 0 ≤ _), (by decide : 4 + 0 ≤ _)⟩)
    dsimp only [Pt.U, Pt.locs, Pt.cells, Pt.slots] at X46 l46 y46 z46 st46 hQ46
    replace X46 := X46.more (Nat.le_of_eq (show k46 = 1 from y46)) (Nat.le_of_eq (show n46 = 4 from z46))
    obtain ⟨rfl, Nq46, e46⟩ := hQ46
    have N46 : Fr n0 L46 := by rw [l46]; exact Fr.app N45 Nq46
    obtain ⟨cl47, Ar47, qc47, S47, Nn47, H47, G47⟩ := id V44v
    have hin47 : ¬ ((3 : Int32) < 0 ∨ cl47.slots.size ≤ ((3 : Int32)).toNatClampNeg) := inb_of S47 ⟨by decide, by decide⟩
    obtain ⟨T48, h48, X48, e48, W48, st48⟩ := stB X46 hx hZ e46 Ar47 (j := (3 : Int32)) hin47 (g := (mkF m 100 #[.val (.int p1), .val (.long q1), .second, .val (.int (4 : Int32)), .val (.ref b33), .val (.int ((((0 : Int32) + (own_at q1 (0 : Int32))) + (own_at q1 (1 : Int32))) + (own_at q1 (2 : Int32)))), .unset] [(.int (own_at q1 (3 : Int32))), (.int (3 : Int32)), (.ref b33)])) rfl rfl (hb hby at_100)
    have V48 : Arv Z h48 b33 k33 .byte (4 : Int32) [(.int (own_at q1 (0 : Int32))), (.int (own_at q1 (1 : Int32))), (.int (own_at q1 (2 : Int32))), (.int (nar .byte (own_at q1 (3 : Int32))))] (.int (0 : Int32)) := Arv.set Ar47 qc47 S47 Nn47 H47 G47 (fits_nar_byte _) W48 3 rfl (Nat.le_of_ble_eq_true rfl)
    have V48v : Arv Z h48 b33 k33 .byte (4 : Int32) [(.int (own_at q1 (0 : Int32))), (.int (own_at q1 (1 : Int32))), (.int (own_at q1 (2 : Int32))), (.int (own_at q1 (3 : Int32)))] (.int (0 : Int32)) := by have q := V48; rw [own_nara] at q; exact q
    have K48 : Keep h0 h48 [] := K44.wr W48 (Or.inr sz_b33)
    have N48 := Fr.snoc X48 N46 g_b33
    have Z48 : n0 ≤ h48.size := Nat.le_trans Z44 (Keep.of_wr W48).1
    obtain ⟨_, _, ⟨T49, L49, k49, n49⟩, -, X49, ⟨Lc49, hQ49, l49, y49, z49⟩, st49⟩ := Jvm.LawKit.callS X48 hx (y := (⟨"com/example/assaybus/assaybus/link/FrameChecksumPinLaw", "at", "(JI)B"⟩ : MethodName)) hown (mvT hZ (hw _ (List.mem_of_getElem? (i := 6) rfl))) (mvT hZ (hw _ (List.mem_of_getElem? (i := 7) rfl))) (mvT hZ (hw _ (List.mem_of_getElem? (i := 8) rfl))) (mvT hZ (hw _ (List.mem_of_getElem? (i := 9) rfl))) (by decide) (backOf (W := 1) (own_mat l Z a0 hw [] q1 (3 : Int32)  h48 n0 Z48 ) hZ (hw _ (List.mem_of_getElem? (i := 9) rfl)) (hw _ (List.mem_of_getElem? (i := 8) rfl)) (by decide) (by decide)) (g := (mkF m 105 #[.val (.int p1), .val (.long q1), .second, .val (.int (4 : Int32)), .val (.ref b33), .val (.int ((((0 : Int32) + (own_at q1 (0 : Int32))) + (own_at q1 (1 : Int32))) + (own_at q1 (2 : Int32)))), .unset] [(.int (3 : Int32)), (.long q1), (.int ((((0 : Int32) + (own_at q1 (0 : Int32))) + (own_at q1 (1 : Int32))) + (own_at q1 (2 : Int32))))])) rfl (by rw [hml]; rfl) (argsL := [(.long q1), (.int (3 : Int32))]) (rest := [(.int ((((0 : Int32) + (own_at q1 (0 : Int32))) + (own_at q1 (1 : Int32))) + (own_at q1 (2 : Int32))))]) (lenOf pd__JI_B rfl) rfl (by show 2 * 0 + _ ≤ _; exact Nat.le_of_eq rfl) (hb hby at_105) (fun _ _ => ⟨rfl, e48, (by decide : 1 + 0 ≤ _), (by decide : 4 + 0 ≤ _)⟩)
    dsimp only [Pt.U, Pt.locs, Pt.cells, Pt.slots] at X49 l49 y49 z49 st49 hQ49
    replace X49 := X49.more (Nat.le_of_eq (show k49 = 1 from y49)) (Nat.le_of_eq (show n49 = 4 from z49))
    obtain ⟨rfl, Nq49, e49⟩ := hQ49
    have N49 : Fr n0 L49 := by rw [l49]; exact Fr.app N48 Nq49
    obtain ⟨_, _, ⟨T50, L50, k50, n50⟩, -, X50, ⟨Lc50, hQ50, l50, y50, z50⟩, st50⟩ := Jvm.LawKit.callS X49 hx (y := (⟨"com/example/assaybus/assaybus/link/Frame", "checksum", "([B)I"⟩ : MethodName)) hown (mvT hZ (hw _ (List.mem_of_getElem? (i := 2) rfl))) (mvT hZ (hw _ (List.mem_of_getElem? (i := 3) rfl))) (mvT hZ (hw _ (List.mem_of_getElem? (i := 4) rfl))) (mvT hZ (hw _ (List.mem_of_getElem? (i := 5) rfl))) (by decide) (backOf (W := 0) (own_sumof l Z a0 hw [] b33 k33 (4 : Int32) [(own_at q1 (0 : Int32)), (own_at q1 (1 : Int32)), (own_at q1 (2 : Int32)), (own_at q1 (3 : Int32))] h48 n0 Z48 V48v rfl) hZ (hw _ (List.mem_of_getElem? (i := 5) rfl)) (hw _ (List.mem_of_getElem? (i := 4) rfl)) (by decide) (by decide)) (g := (mkF m 217 #[.val (.int p1), .val (.long q1), .second, .val (.int (4 : Int32)), .val (.ref b33), .val (.int (((((0 : Int32) + (own_at q1 (0 : Int32))) + (own_at q1 (1 : Int32))) + (own_at q1 (2 : Int32))) + (own_at q1 (3 : Int32)))), .unset] [(.ref b33)])) rfl (by rw [hml]; rfl) (argsL := [(.ref b33)]) (rest := []) (lenOf pd___B_I rfl) rfl (by show 2 * 0 + _ ≤ _; exact Nat.le_of_eq rfl) (hb hby at_217) (fun _ _ => ⟨rfl, e49, (by decide : 1 + 0 ≤ _), (by decide : 4 + 0 ≤ _)⟩)
    dsimp only [Pt.U, Pt.locs, Pt.cells, Pt.slots] at X50 l50 y50 z50 st50 hQ50
    replace X50 := X50.more (Nat.le_of_eq (show k50 = 1 from y50)) (Nat.le_of_eq (show n50 = 4 from z50))
    obtain ⟨rfl, Nq50, e50⟩ := hQ50
    have N50 : Fr n0 L50 := by rw [l50]; exact Fr.app N49 Nq50
    obtain ⟨fs, hr, hrun, hended, hW, hsame⟩ := X50.leave (v := some (.int (1 : Int32))) (fun h => by rw [Bd.returns] at h; cases h)
    refine ⟨_, _, pre0 _ ?_, hrun, hended, _, _, rfl, ?_, ⟨_, rfl⟩, hW, hsame.mono (by decide) (by decide)⟩
    · show Steps p.tables e below (s₁.setTop (mkF m 0 #[.val (.int p1), .val (.long q1), .second, .unset, .unset, .unset, .unset] [])) _
      refine XS.iloadN X0.here hx rfl (hb hby at_0) rfl ?_
      show Steps p.tables e below (s₁.setTop (mkF m 1 #[.val (.int p1), .val (.long q1), .second, .unset, .unset, .unset, .unset] [(.int p1)])) _
      refine X0.ldcInt hx hown (mvT hZ (hw _ (List.mem_of_getElem? (i := 0) rfl))) (g := (mkF m 1 #[.val (.int p1), .val (.long q1), .second, .unset, .unset, .unset, .unset] [(.int p1)])) rfl (hb hby at_1) _ ?_
      show Steps p.tables e below (s₁.setTop (mkF m 3 #[.val (.int p1), .val (.long q1), .second, .unset, .unset, .unset, .unset] [(.int (2147483647 : Int32)), (.int p1)])) _
      refine XS.iand X0.here hx rfl (hb hby at_3) rfl ?_
      show Steps p.tables e below (s₁.setTop (mkF m 4 #[.val (.int p1), .val (.long q1), .second, .unset, .unset, .unset, .unset] [(.int (p1 &&& (2147483647 : Int32)))])) _
      refine XS.bipush X0.here hx rfl (hb hby at_4) ?_
      show Steps p.tables e below (s₁.setTop (mkF m 6 #[.val (.int p1), .val (.long q1), .second, .unset, .unset, .unset, .unset] [(.int (9 : Int32)), (.int (p1 &&& (2147483647 : Int32)))])) _
      refine iremM X0 hx rfl (hb hby at_6) rfl (by decide) ?_
      show Steps p.tables e below (s₁.setTop (mkF m 7 #[.val (.int p1), .val (.long q1), .second, .unset, .unset, .unset, .unset] [(.int ((p1 &&& (2147483647 : Int32)) % (9 : Int32)))])) _
      rw [hl]
      show Steps p.tables e below (s₁.setTop (mkF m 7 #[.val (.int p1), .val (.long q1), .second, .unset, .unset, .unset, .unset] [(.int (4 : Int32))])) _
      refine XS.istoreN X0.here hx rfl (hb hby at_7) rfl (l' := #[.val (.int p1), .val (.long q1), .second, .val (.int (4 : Int32)), .unset, .unset, .unset]) rfl ?_
      show Steps p.tables e below (s₁.setTop (mkF m 8 #[.val (.int p1), .val (.long q1), .second, .val (.int (4 : Int32)), .unset, .unset, .unset] [])) _
      refine XS.iloadN X0.here hx rfl (hb hby at_8) rfl ?_
      show Steps p.tables e below (s₁.setTop (mkF m 9 #[.val (.int p1), .val (.long q1), .second, .val (.int (4 : Int32)), .unset, .unset, .unset] [(.int (4 : Int32))])) _
      refine st33 _ ?_
      show Steps p.tables e below (T33.setTop (mkF m 11 #[.val (.int p1), .val (.long q1), .second, .val (.int (4 : Int32)), .unset, .unset, .unset] [(.ref b33)])) _
      refine XS.astore X33.here hx rfl (hb hby at_11) rfl rfl (l' := #[.val (.int p1), .val (.long q1), .second, .val (.int (4 : Int32)), .val (.ref b33), .unset, .unset]) rfl ?_
      show Steps p.tables e below (T33.setTop (mkF m 13 #[.val (.int p1), .val (.long q1), .second, .val (.int (4 : Int32)), .val (.ref b33), .unset, .unset] [])) _
      refine XS.iconst X33.here hx rfl (hb hby at_13) ?_
      show Steps p.tables e below (T33.setTop (mkF m 14 #[.val (.int p1), .val (.long q1), .second, .val (.int (4 : Int32)), .val (.ref b33), .unset, .unset] [(.int (0 : Int32))])) _
      refine XS.istore X33.here hx rfl (hb hby at_14) rfl (l' := #[.val (.int p1), .val (.long q1), .second, .val (.int (4 : Int32)), .val (.ref b33), .val (.int (0 : Int32)), .unset]) rfl ?_
      show Steps p.tables e below (T33.setTop (mkF m 16 #[.val (.int p1), .val (.long q1), .second, .val (.int (4 : Int32)), .val (.ref b33), .val (.int (0 : Int32)), .unset] [])) _
      refine XS.iloadN X33.here hx rfl (hb hby at_16) rfl ?_
      show Steps p.tables e below (T33.setTop (mkF m 17 #[.val (.int p1), .val (.long q1), .second, .val (.int (4 : Int32)), .val (.ref b33), .val (.int (0 : Int32)), .unset] [(.int (4 : Int32))])) _
      refine XS.ifNo X33.here hx rfl (hb hby at_17) rfl ((if0 _ _).trans (tlt (by decide : (0 : Int32) < (4 : Int32))).2.2.2) ?_
      show Steps p.tables e below (T33.setTop (mkF m 20 #[.val (.int p1), .val (.long q1), .second, .val (.int (4 : Int32)), .val (.ref b33), .val (.int (0 : Int32)), .unset] [])) _
      refine XS.aload X33.here hx rfl (hb hby at_20) rfl rfl ?_
      show Steps p.tables e below (T33.setTop (mkF m 22 #[.val (.int p1), .val (.long q1), .second, .val (.int (4 : Int32)), .val (.ref b33), .val (.int (0 : Int32)), .unset] [(.ref b33)])) _
      refine XS.iconst X33.here hx rfl (hb hby at_22) ?_
      show Steps p.tables e below (T33.setTop (mkF m 23 #[.val (.int p1), .val (.long q1), .second, .val (.int (4 : Int32)), .val (.ref b33), .val (.int (0 : Int32)), .unset] [(.int (0 : Int32)), (.ref b33)])) _
      refine XS.lloadN X33.here hx rfl (hb hby at_23) rfl ?_
      show Steps p.tables e below (T33.setTop (mkF m 24 #[.val (.int p1), .val (.long q1), .second, .val (.int (4 : Int32)), .val (.ref b33), .val (.int (0 : Int32)), .unset] [(.long q1), (.int (0 : Int32)), (.ref b33)])) _
      refine XS.iconst X33.here hx rfl (hb hby at_24) ?_
      show Steps p.tables e below (T33.setTop (mkF m 25 #[.val (.int p1), .val (.long q1), .second, .val (.int (4 : Int32)), .val (.ref b33), .val (.int (0 : Int32)), .unset] [(.int (0 : Int32)), (.long q1), (.int (0 : Int32)), (.ref b33)])) _
      refine st34 _ ?_
      show Steps p.tables e below (T34.setTop (mkF m 28 #[.val (.int p1), .val (.long q1), .second, .val (.int (4 : Int32)), .val (.ref b33), .val (.int (0 : Int32)), .unset] [(.int (own_at q1 (0 : Int32))), (.int (0 : Int32)), (.ref b33)])) _
      refine st36 _ ?_
      show Steps p.tables e below (T36.setTop (mkF m 29 #[.val (.int p1), .val (.long q1), .second, .val (.int (4 : Int32)), .val (.ref b33), .val (.int (0 : Int32)), .unset] [])) _
      refine XS.iload X36.here hx rfl (hb hby at_29) rfl ?_
      show Steps p.tables e below (T36.setTop (mkF m 31 #[.val (.int p1), .val (.long q1), .second, .val (.int (4 : Int32)), .val (.ref b33), .val (.int (0 : Int32)), .unset] [(.int (0 : Int32))])) _
      refine XS.lloadN X36.here hx rfl (hb hby at_31) rfl ?_
      show Steps p.tables e below (T36.setTop (mkF m 32 #[.val (.int p1), .val (.long q1), .second, .val (.int (4 : Int32)), .val (.ref b33), .val (.int (0 : Int32)), .unset] [(.long q1), (.int (0 : Int32))])) _
      refine XS.iconst X36.here hx rfl (hb hby at_32) ?_
      show Steps p.tables e below (T36.setTop (mkF m 33 #[.val (.int p1), .val (.long q1), .second, .val (.int (4 : Int32)), .val (.ref b33), .val (.int (0 : Int32)), .unset] [(.int (0 : Int32)), (.long q1), (.int (0 : Int32))])) _
      refine st37 _ ?_
      show Steps p.tables e below (T37.setTop (mkF m 36 #[.val (.int p1), .val (.long q1), .second, .val (.int (4 : Int32)), .val (.ref b33), .val (.int (0 : Int32)), .unset] [(.int (own_at q1 (0 : Int32))), (.int (0 : Int32))])) _
      refine XS.iadd X37.here hx rfl (hb hby at_36) rfl ?_
      show Steps p.tables e below (T37.setTop (mkF m 37 #[.val (.int p1), .val (.long q1), .second, .val (.int (4 : Int32)), .val (.ref b33), .val (.int (0 : Int32)), .unset] [(.int ((0 : Int32) + (own_at q1 (0 : Int32))))])) _
      refine XS.istore X37.here hx rfl (hb hby at_37) rfl (l' := #[.val (.int p1), .val (.long q1), .second, .val (.int (4 : Int32)), .val (.ref b33), .val (.int ((0 : Int32) + (own_at q1 (0 : Int32)))), .unset]) rfl ?_
      show Steps p.tables e below (T37.setTop (mkF m 39 #[.val (.int p1), .val (.long q1), .second, .val (.int (4 : Int32)), .val (.ref b33), .val (.int ((0 : Int32) + (own_at q1 (0 : Int32)))), .unset] [])) _
      refine XS.iloadN X37.here hx rfl (hb hby at_39) rfl ?_
      show Steps p.tables e below (T37.setTop (mkF m 40 #[.val (.int p1), .val (.long q1), .second, .val (.int (4 : Int32)), .val (.ref b33), .val (.int ((0 : Int32) + (own_at q1 (0 : Int32)))), .unset] [(.int (4 : Int32))])) _
      refine XS.iconst X37.here hx rfl (hb hby at_40) ?_
      show Steps p.tables e below (T37.setTop (mkF m 41 #[.val (.int p1), .val (.long q1), .second, .val (.int (4 : Int32)), .val (.ref b33), .val (.int ((0 : Int32) + (own_at q1 (0 : Int32)))), .unset] [(.int (1 : Int32)), (.int (4 : Int32))])) _
      refine XS.icmpNo X37.here hx rfl (hb hby at_41) rfl (tlt (by decide : (1 : Int32) < (4 : Int32))).2.2.2 ?_
      show Steps p.tables e below (T37.setTop (mkF m 44 #[.val (.int p1), .val (.long q1), .second, .val (.int (4 : Int32)), .val (.ref b33), .val (.int ((0 : Int32) + (own_at q1 (0 : Int32)))), .unset] [])) _
      refine XS.aload X37.here hx rfl (hb hby at_44) rfl rfl ?_
      show Steps p.tables e below (T37.setTop (mkF m 46 #[.val (.int p1), .val (.long q1), .second, .val (.int (4 : Int32)), .val (.ref b33), .val (.int ((0 : Int32) + (own_at q1 (0 : Int32)))), .unset] [(.ref b33)])) _
      refine XS.iconst X37.here hx rfl (hb hby at_46) ?_
      show Steps p.tables e below (T37.setTop (mkF m 47 #[.val (.int p1), .val (.long q1), .second, .val (.int (4 : Int32)), .val (.ref b33), .val (.int ((0 : Int32) + (own_at q1 (0 : Int32)))), .unset] [(.int (1 : Int32)), (.ref b33)])) _
      refine XS.lloadN X37.here hx rfl (hb hby at_47) rfl ?_
      show Steps p.tables e below (T37.setTop (mkF m 48 #[.val (.int p1), .val (.long q1), .second, .val (.int (4 : Int32)), .val (.ref b33), .val (.int ((0 : Int32) + (own_at q1 (0 : Int32)))), .unset] [(.long q1), (.int (1 : Int32)), (.ref b33)])) _
      refine XS.iconst X37.here hx rfl (hb hby at_48) ?_
      show Steps p.tables e below (T37.setTop (mkF m 49 #[.val (.int p1), .val (.long q1), .second, .val (.int (4 : Int32)), .val (.ref b33), .val (.int ((0 : Int32) + (own_at q1 (0 : Int32)))), .unset] [(.int (1 : Int32)), (.long q1), (.int (1 : Int32)), (.ref b33)])) _
      refine st38 _ ?_
      show Steps p.tables e below (T38.setTop (mkF m 52 #[.val (.int p1), .val (.long q1), .second, .val (.int (4 : Int32)), .val (.ref b33), .val (.int ((0 : Int32) + (own_at q1 (0 : Int32)))), .unset] [(.int (own_at q1 (1 : Int32))), (.int (1 : Int32)), (.ref b33)])) _
      refine st40 _ ?_
      show Steps p.tables e below (T40.setTop (mkF m 53 #[.val (.int p1), .val (.long q1), .second, .val (.int (4 : Int32)), .val (.ref b33), .val (.int ((0 : Int32) + (own_at q1 (0 : Int32)))), .unset] [])) _
      refine XS.iload X40.here hx rfl (hb hby at_53) rfl ?_
      show Steps p.tables e below (T40.setTop (mkF m 55 #[.val (.int p1), .val (.long q1), .second, .val (.int (4 : Int32)), .val (.ref b33), .val (.int ((0 : Int32) + (own_at q1 (0 : Int32)))), .unset] [(.int ((0 : Int32) + (own_at q1 (0 : Int32))))])) _
      refine XS.lloadN X40.here hx rfl (hb hby at_55) rfl ?_
      show Steps p.tables e below (T40.setTop (mkF m 56 #[.val (.int p1), .val (.long q1), .second, .val (.int (4 : Int32)), .val (.ref b33), .val (.int ((0 : Int32) + (own_at q1 (0 : Int32)))), .unset] [(.long q1), (.int ((0 : Int32) + (own_at q1 (0 : Int32))))])) _
      refine XS.iconst X40.here hx rfl (hb hby at_56) ?_
      show Steps p.tables e below (T40.setTop (mkF m 57 #[.val (.int p1), .val (.long q1), .second, .val (.int (4 : Int32)), .val (.ref b33), .val (.int ((0 : Int32) + (own_at q1 (0 : Int32)))), .unset] [(.int (1 : Int32)), (.long q1), (.int ((0 : Int32) + (own_at q1 (0 : Int32))))])) _
      refine st41 _ ?_
      show Steps p.tables e below (T41.setTop (mkF m 60 #[.val (.int p1), .val (.long q1), .second, .val (.int (4 : Int32)), .val (.ref b33), .val (.int ((0 : Int32) + (own_at q1 (0 : Int32)))), .unset] [(.int (own_at q1 (1 : Int32))), (.int ((0 : Int32) + (own_at q1 (0 : Int32))))])) _
      refine XS.iadd X41.here hx rfl (hb hby at_60) rfl ?_
      show Steps p.tables e below (T41.setTop (mkF m 61 #[.val (.int p1), .val (.long q1), .second, .val (.int (4 : Int32)), .val (.ref b33), .val (.int ((0 : Int32) + (own_at q1 (0 : Int32)))), .unset] [(.int (((0 : Int32) + (own_at q1 (0 : Int32))) + (own_at q1 (1 : Int32))))])) _
      refine XS.istore X41.here hx rfl (hb hby at_61) rfl (l' := #[.val (.int p1), .val (.long q1), .second, .val (.int (4 : Int32)), .val (.ref b33), .val (.int (((0 : Int32) + (own_at q1 (0 : Int32))) + (own_at q1 (1 : Int32)))), .unset]) rfl ?_
      show Steps p.tables e below (T41.setTop (mkF m 63 #[.val (.int p1), .val (.long q1), .second, .val (.int (4 : Int32)), .val (.ref b33), .val (.int (((0 : Int32) + (own_at q1 (0 : Int32))) + (own_at q1 (1 : Int32)))), .unset] [])) _
      refine XS.iloadN X41.here hx rfl (hb hby at_63) rfl ?_
      show Steps p.tables e below (T41.setTop (mkF m 64 #[.val (.int p1), .val (.long q1), .second, .val (.int (4 : Int32)), .val (.ref b33), .val (.int (((0 : Int32) + (own_at q1 (0 : Int32))) + (own_at q1 (1 : Int32)))), .unset] [(.int (4 : Int32))])) _
      refine XS.iconst X41.here hx rfl (hb hby at_64) ?_
      show Steps p.tables e below (T41.setTop (mkF m 65 #[.val (.int p1), .val (.long q1), .second, .val (.int (4 : Int32)), .val (.ref b33), .val (.int (((0 : Int32) + (own_at q1 (0 : Int32))) + (own_at q1 (1 : Int32)))), .unset] [(.int (2 : Int32)), (.int (4 : Int32))])) _
      refine XS.icmpNo X41.here hx rfl (hb hby at_65) rfl (tlt (by decide : (2 : Int32) < (4 : Int32))).2.2.2 ?_
      show Steps p.tables e below (T41.setTop (mkF m 68 #[.val (.int p1), .val (.long q1), .second, .val (.int (4 : Int32)), .val (.ref b33), .val (.int (((0 : Int32) + (own_at q1 (0 : Int32))) + (own_at q1 (1 : Int32)))), .unset] [])) _
      refine XS.aload X41.here hx rfl (hb hby at_68) rfl rfl ?_
      show Steps p.tables e below (T41.setTop (mkF m 70 #[.val (.int p1), .val (.long q1), .second, .val (.int (4 : Int32)), .val (.ref b33), .val (.int (((0 : Int32) + (own_at q1 (0 : Int32))) + (own_at q1 (1 : Int32)))), .unset] [(.ref b33)])) _
      refine XS.iconst X41.here hx rfl (hb hby at_70) ?_
      show Steps p.tables e below (T41.setTop (mkF m 71 #[.val (.int p1), .val (.long q1), .second, .val (.int (4 : Int32)), .val (.ref b33), .val (.int (((0 : Int32) + (own_at q1 (0 : Int32))) + (own_at q1 (1 : Int32)))), .unset] [(.int (2 : Int32)), (.ref b33)])) _
      refine XS.lloadN X41.here hx rfl (hb hby at_71) rfl ?_
      show Steps p.tables e below (T41.setTop (mkF m 72 #[.val (.int p1), .val (.long q1), .second, .val (.int (4 : Int32)), .val (.ref b33), .val (.int (((0 : Int32) + (own_at q1 (0 : Int32))) + (own_at q1 (1 : Int32)))), .unset] [(.long q1), (.int (2 : Int32)), (.ref b33)])) _
      refine XS.iconst X41.here hx rfl (hb hby at_72) ?_
      show Steps p.tables e below (T41.setTop (mkF m 73 #[.val (.int p1), .val (.long q1), .second, .val (.int (4 : Int32)), .val (.ref b33), .val (.int (((0 : Int32) + (own_at q1 (0 : Int32))) + (own_at q1 (1 : Int32)))), .unset] [(.int (2 : Int32)), (.long q1), (.int (2 : Int32)), (.ref b33)])) _
      refine st42 _ ?_
      show Steps p.tables e below (T42.setTop (mkF m 76 #[.val (.int p1), .val (.long q1), .second, .val (.int (4 : Int32)), .val (.ref b33), .val (.int (((0 : Int32) + (own_at q1 (0 : Int32))) + (own_at q1 (1 : Int32)))), .unset] [(.int (own_at q1 (2 : Int32))), (.int (2 : Int32)), (.ref b33)])) _
      refine st44 _ ?_
      show Steps p.tables e below (T44.setTop (mkF m 77 #[.val (.int p1), .val (.long q1), .second, .val (.int (4 : Int32)), .val (.ref b33), .val (.int (((0 : Int32) + (own_at q1 (0 : Int32))) + (own_at q1 (1 : Int32)))), .unset] [])) _
      refine XS.iload X44.here hx rfl (hb hby at_77) rfl ?_
      show Steps p.tables e below (T44.setTop (mkF m 79 #[.val (.int p1), .val (.long q1), .second, .val (.int (4 : Int32)), .val (.ref b33), .val (.int (((0 : Int32) + (own_at q1 (0 : Int32))) + (own_at q1 (1 : Int32)))), .unset] [(.int (((0 : Int32) + (own_at q1 (0 : Int32))) + (own_at q1 (1 : Int32))))])) _
      refine XS.lloadN X44.here hx rfl (hb hby at_79) rfl ?_
      show Steps p.tables e below (T44.setTop (mkF m 80 #[.val (.int p1), .val (.long q1), .second, .val (.int (4 : Int32)), .val (.ref b33), .val (.int (((0 : Int32) + (own_at q1 (0 : Int32))) + (own_at q1 (1 : Int32)))), .unset] [(.long q1), (.int (((0 : Int32) + (own_at q1 (0 : Int32))) + (own_at q1 (1 : Int32))))])) _
      refine XS.iconst X44.here hx rfl (hb hby at_80) ?_
      show Steps p.tables e below (T44.setTop (mkF m 81 #[.val (.int p1), .val (.long q1), .second, .val (.int (4 : Int32)), .val (.ref b33), .val (.int (((0 : Int32) + (own_at q1 (0 : Int32))) + (own_at q1 (1 : Int32)))), .unset] [(.int (2 : Int32)), (.long q1), (.int (((0 : Int32) + (own_at q1 (0 : Int32))) + (own_at q1 (1 : Int32))))])) _
      refine st45 _ ?_
      show Steps p.tables e below (T45.setTop (mkF m 84 #[.val (.int p1), .val (.long q1), .second, .val (.int (4 : Int32)), .val (.ref b33), .val (.int (((0 : Int32) + (own_at q1 (0 : Int32))) + (own_at q1 (1 : Int32)))), .unset] [(.int (own_at q1 (2 : Int32))), (.int (((0 : Int32) + (own_at q1 (0 : Int32))) + (own_at q1 (1 : Int32))))])) _
      refine XS.iadd X45.here hx rfl (hb hby at_84) rfl ?_
      show Steps p.tables e below (T45.setTop (mkF m 85 #[.val (.int p1), .val (.long q1), .second, .val (.int (4 : Int32)), .val (.ref b33), .val (.int (((0 : Int32) + (own_at q1 (0 : Int32))) + (own_at q1 (1 : Int32)))), .unset] [(.int ((((0 : Int32) + (own_at q1 (0 : Int32))) + (own_at q1 (1 : Int32))) + (own_at q1 (2 : Int32))))])) _
      refine XS.istore X45.here hx rfl (hb hby at_85) rfl (l' := #[.val (.int p1), .val (.long q1), .second, .val (.int (4 : Int32)), .val (.ref b33), .val (.int ((((0 : Int32) + (own_at q1 (0 : Int32))) + (own_at q1 (1 : Int32))) + (own_at q1 (2 : Int32)))), .unset]) rfl ?_
      show Steps p.tables e below (T45.setTop (mkF m 87 #[.val (.int p1), .val (.long q1), .second, .val (.int (4 : Int32)), .val (.ref b33), .val (.int ((((0 : Int32) + (own_at q1 (0 : Int32))) + (own_at q1 (1 : Int32))) + (own_at q1 (2 : Int32)))), .unset] [])) _
      refine XS.iloadN X45.here hx rfl (hb hby at_87) rfl ?_
      show Steps p.tables e below (T45.setTop (mkF m 88 #[.val (.int p1), .val (.long q1), .second, .val (.int (4 : Int32)), .val (.ref b33), .val (.int ((((0 : Int32) + (own_at q1 (0 : Int32))) + (own_at q1 (1 : Int32))) + (own_at q1 (2 : Int32)))), .unset] [(.int (4 : Int32))])) _
      refine XS.iconst X45.here hx rfl (hb hby at_88) ?_
      show Steps p.tables e below (T45.setTop (mkF m 89 #[.val (.int p1), .val (.long q1), .second, .val (.int (4 : Int32)), .val (.ref b33), .val (.int ((((0 : Int32) + (own_at q1 (0 : Int32))) + (own_at q1 (1 : Int32))) + (own_at q1 (2 : Int32)))), .unset] [(.int (3 : Int32)), (.int (4 : Int32))])) _
      refine XS.icmpNo X45.here hx rfl (hb hby at_89) rfl (tlt (by decide : (3 : Int32) < (4 : Int32))).2.2.2 ?_
      show Steps p.tables e below (T45.setTop (mkF m 92 #[.val (.int p1), .val (.long q1), .second, .val (.int (4 : Int32)), .val (.ref b33), .val (.int ((((0 : Int32) + (own_at q1 (0 : Int32))) + (own_at q1 (1 : Int32))) + (own_at q1 (2 : Int32)))), .unset] [])) _
      refine XS.aload X45.here hx rfl (hb hby at_92) rfl rfl ?_
      show Steps p.tables e below (T45.setTop (mkF m 94 #[.val (.int p1), .val (.long q1), .second, .val (.int (4 : Int32)), .val (.ref b33), .val (.int ((((0 : Int32) + (own_at q1 (0 : Int32))) + (own_at q1 (1 : Int32))) + (own_at q1 (2 : Int32)))), .unset] [(.ref b33)])) _
      refine XS.iconst X45.here hx rfl (hb hby at_94) ?_
      show Steps p.tables e below (T45.setTop (mkF m 95 #[.val (.int p1), .val (.long q1), .second, .val (.int (4 : Int32)), .val (.ref b33), .val (.int ((((0 : Int32) + (own_at q1 (0 : Int32))) + (own_at q1 (1 : Int32))) + (own_at q1 (2 : Int32)))), .unset] [(.int (3 : Int32)), (.ref b33)])) _
      refine XS.lloadN X45.here hx rfl (hb hby at_95) rfl ?_
      show Steps p.tables e below (T45.setTop (mkF m 96 #[.val (.int p1), .val (.long q1), .second, .val (.int (4 : Int32)), .val (.ref b33), .val (.int ((((0 : Int32) + (own_at q1 (0 : Int32))) + (own_at q1 (1 : Int32))) + (own_at q1 (2 : Int32)))), .unset] [(.long q1), (.int (3 : Int32)), (.ref b33)])) _
      refine XS.iconst X45.here hx rfl (hb hby at_96) ?_
      show Steps p.tables e below (T45.setTop (mkF m 97 #[.val (.int p1), .val (.long q1), .second, .val (.int (4 : Int32)), .val (.ref b33), .val (.int ((((0 : Int32) + (own_at q1 (0 : Int32))) + (own_at q1 (1 : Int32))) + (own_at q1 (2 : Int32)))), .unset] [(.int (3 : Int32)), (.long q1), (.int (3 : Int32)), (.ref b33)])) _
      refine st46 _ ?_
      show Steps p.tables e below (T46.setTop (mkF m 100 #[.val (.int p1), .val (.long q1), .second, .val (.int (4 : Int32)), .val (.ref b33), .val (.int ((((0 : Int32) + (own_at q1 (0 : Int32))) + (own_at q1 (1 : Int32))) + (own_at q1 (2 : Int32)))), .unset] [(.int (own_at q1 (3 : Int32))), (.int (3 : Int32)), (.ref b33)])) _
      refine st48 _ ?_
      show Steps p.tables e below (T48.setTop (mkF m 101 #[.val (.int p1), .val (.long q1), .second, .val (.int (4 : Int32)), .val (.ref b33), .val (.int ((((0 : Int32) + (own_at q1 (0 : Int32))) + (own_at q1 (1 : Int32))) + (own_at q1 (2 : Int32)))), .unset] [])) _
      refine XS.iload X48.here hx rfl (hb hby at_101) rfl ?_
      show Steps p.tables e below (T48.setTop (mkF m 103 #[.val (.int p1), .val (.long q1), .second, .val (.int (4 : Int32)), .val (.ref b33), .val (.int ((((0 : Int32) + (own_at q1 (0 : Int32))) + (own_at q1 (1 : Int32))) + (own_at q1 (2 : Int32)))), .unset] [(.int ((((0 : Int32) + (own_at q1 (0 : Int32))) + (own_at q1 (1 : Int32))) + (own_at q1 (2 : Int32))))])) _
      refine XS.lloadN X48.here hx rfl (hb hby at_103) rfl ?_
      show Steps p.tables e below (T48.setTop (mkF m 104 #[.val (.int p1), .val (.long q1), .second, .val (.int (4 : Int32)), .val (.ref b33), .val (.int ((((0 : Int32) + (own_at q1 (0 : Int32))) + (own_at q1 (1 : Int32))) + (own_at q1 (2 : Int32)))), .unset] [(.long q1), (.int ((((0 : Int32) + (own_at q1 (0 : Int32))) + (own_at q1 (1 : Int32))) + (own_at q1 (2 : Int32))))])) _
      refine XS.iconst X48.here hx rfl (hb hby at_104) ?_
      show Steps p.tables e below (T48.setTop (mkF m 105 #[.val (.int p1), .val (.long q1), .second, .val (.int (4 : Int32)), .val (.ref b33), .val (.int ((((0 : Int32) + (own_at q1 (0 : Int32))) + (own_at q1 (1 : Int32))) + (own_at q1 (2 : Int32)))), .unset] [(.int (3 : Int32)), (.long q1), (.int ((((0 : Int32) + (own_at q1 (0 : Int32))) + (own_at q1 (1 : Int32))) + (own_at q1 (2 : Int32))))])) _
      refine st49 _ ?_
      show Steps p.tables e below (T49.setTop (mkF m 108 #[.val (.int p1), .val (.long q1), .second, .val (.int (4 : Int32)), .val (.ref b33), .val (.int ((((0 : Int32) + (own_at q1 (0 : Int32))) + (own_at q1 (1 : Int32))) + (own_at q1 (2 : Int32)))), .unset] [(.int (own_at q1 (3 : Int32))), (.int ((((0 : Int32) + (own_at q1 (0 : Int32))) + (own_at q1 (1 : Int32))) + (own_at q1 (2 : Int32))))])) _
      refine XS.iadd X49.here hx rfl (hb hby at_108) rfl ?_
      show Steps p.tables e below (T49.setTop (mkF m 109 #[.val (.int p1), .val (.long q1), .second, .val (.int (4 : Int32)), .val (.ref b33), .val (.int ((((0 : Int32) + (own_at q1 (0 : Int32))) + (own_at q1 (1 : Int32))) + (own_at q1 (2 : Int32)))), .unset] [(.int (((((0 : Int32) + (own_at q1 (0 : Int32))) + (own_at q1 (1 : Int32))) + (own_at q1 (2 : Int32))) + (own_at q1 (3 : Int32))))])) _
      refine XS.istore X49.here hx rfl (hb hby at_109) rfl (l' := #[.val (.int p1), .val (.long q1), .second, .val (.int (4 : Int32)), .val (.ref b33), .val (.int (((((0 : Int32) + (own_at q1 (0 : Int32))) + (own_at q1 (1 : Int32))) + (own_at q1 (2 : Int32))) + (own_at q1 (3 : Int32)))), .unset]) rfl ?_
      show Steps p.tables e below (T49.setTop (mkF m 111 #[.val (.int p1), .val (.long q1), .second, .val (.int (4 : Int32)), .val (.ref b33), .val (.int (((((0 : Int32) + (own_at q1 (0 : Int32))) + (own_at q1 (1 : Int32))) + (own_at q1 (2 : Int32))) + (own_at q1 (3 : Int32)))), .unset] [])) _
      refine XS.iloadN X49.here hx rfl (hb hby at_111) rfl ?_
      show Steps p.tables e below (T49.setTop (mkF m 112 #[.val (.int p1), .val (.long q1), .second, .val (.int (4 : Int32)), .val (.ref b33), .val (.int (((((0 : Int32) + (own_at q1 (0 : Int32))) + (own_at q1 (1 : Int32))) + (own_at q1 (2 : Int32))) + (own_at q1 (3 : Int32)))), .unset] [(.int (4 : Int32))])) _
      refine XS.iconst X49.here hx rfl (hb hby at_112) ?_
      show Steps p.tables e below (T49.setTop (mkF m 113 #[.val (.int p1), .val (.long q1), .second, .val (.int (4 : Int32)), .val (.ref b33), .val (.int (((((0 : Int32) + (own_at q1 (0 : Int32))) + (own_at q1 (1 : Int32))) + (own_at q1 (2 : Int32))) + (own_at q1 (3 : Int32)))), .unset] [(.int (4 : Int32)), (.int (4 : Int32))])) _
      refine XS.icmpYes X49.here hx rfl (pc0 := 113) (pc' := 135) rfl (hb hby at_113) rfl (flt (by decide : ¬ ((4 : Int32) < (4 : Int32)))).2.2.2 (by decide) (by decide) ?_
      show Steps p.tables e below (T49.setTop (mkF m 135 #[.val (.int p1), .val (.long q1), .second, .val (.int (4 : Int32)), .val (.ref b33), .val (.int (((((0 : Int32) + (own_at q1 (0 : Int32))) + (own_at q1 (1 : Int32))) + (own_at q1 (2 : Int32))) + (own_at q1 (3 : Int32)))), .unset] [])) _
      refine XS.iloadN X49.here hx rfl (hb hby at_135) rfl ?_
      show Steps p.tables e below (T49.setTop (mkF m 136 #[.val (.int p1), .val (.long q1), .second, .val (.int (4 : Int32)), .val (.ref b33), .val (.int (((((0 : Int32) + (own_at q1 (0 : Int32))) + (own_at q1 (1 : Int32))) + (own_at q1 (2 : Int32))) + (own_at q1 (3 : Int32)))), .unset] [(.int (4 : Int32))])) _
      refine XS.iconst X49.here hx rfl (hb hby at_136) ?_
      show Steps p.tables e below (T49.setTop (mkF m 137 #[.val (.int p1), .val (.long q1), .second, .val (.int (4 : Int32)), .val (.ref b33), .val (.int (((((0 : Int32) + (own_at q1 (0 : Int32))) + (own_at q1 (1 : Int32))) + (own_at q1 (2 : Int32))) + (own_at q1 (3 : Int32)))), .unset] [(.int (5 : Int32)), (.int (4 : Int32))])) _
      refine XS.icmpYes X49.here hx rfl (pc0 := 137) (pc' := 159) rfl (hb hby at_137) rfl (flt (by decide : ¬ ((5 : Int32) < (4 : Int32)))).2.2.2 (by decide) (by decide) ?_
      show Steps p.tables e below (T49.setTop (mkF m 159 #[.val (.int p1), .val (.long q1), .second, .val (.int (4 : Int32)), .val (.ref b33), .val (.int (((((0 : Int32) + (own_at q1 (0 : Int32))) + (own_at q1 (1 : Int32))) + (own_at q1 (2 : Int32))) + (own_at q1 (3 : Int32)))), .unset] [])) _
      refine XS.iloadN X49.here hx rfl (hb hby at_159) rfl ?_
      show Steps p.tables e below (T49.setTop (mkF m 160 #[.val (.int p1), .val (.long q1), .second, .val (.int (4 : Int32)), .val (.ref b33), .val (.int (((((0 : Int32) + (own_at q1 (0 : Int32))) + (own_at q1 (1 : Int32))) + (own_at q1 (2 : Int32))) + (own_at q1 (3 : Int32)))), .unset] [(.int (4 : Int32))])) _
      refine XS.bipush X49.here hx rfl (hb hby at_160) ?_
      show Steps p.tables e below (T49.setTop (mkF m 162 #[.val (.int p1), .val (.long q1), .second, .val (.int (4 : Int32)), .val (.ref b33), .val (.int (((((0 : Int32) + (own_at q1 (0 : Int32))) + (own_at q1 (1 : Int32))) + (own_at q1 (2 : Int32))) + (own_at q1 (3 : Int32)))), .unset] [(.int (6 : Int32)), (.int (4 : Int32))])) _
      refine XS.icmpYes X49.here hx rfl (pc0 := 162) (pc' := 187) rfl (hb hby at_162) rfl (flt (by decide : ¬ ((6 : Int32) < (4 : Int32)))).2.2.2 (by decide) (by decide) ?_
      show Steps p.tables e below (T49.setTop (mkF m 187 #[.val (.int p1), .val (.long q1), .second, .val (.int (4 : Int32)), .val (.ref b33), .val (.int (((((0 : Int32) + (own_at q1 (0 : Int32))) + (own_at q1 (1 : Int32))) + (own_at q1 (2 : Int32))) + (own_at q1 (3 : Int32)))), .unset] [])) _
      refine XS.iloadN X49.here hx rfl (hb hby at_187) rfl ?_
      show Steps p.tables e below (T49.setTop (mkF m 188 #[.val (.int p1), .val (.long q1), .second, .val (.int (4 : Int32)), .val (.ref b33), .val (.int (((((0 : Int32) + (own_at q1 (0 : Int32))) + (own_at q1 (1 : Int32))) + (own_at q1 (2 : Int32))) + (own_at q1 (3 : Int32)))), .unset] [(.int (4 : Int32))])) _
      refine XS.bipush X49.here hx rfl (hb hby at_188) ?_
      show Steps p.tables e below (T49.setTop (mkF m 190 #[.val (.int p1), .val (.long q1), .second, .val (.int (4 : Int32)), .val (.ref b33), .val (.int (((((0 : Int32) + (own_at q1 (0 : Int32))) + (own_at q1 (1 : Int32))) + (own_at q1 (2 : Int32))) + (own_at q1 (3 : Int32)))), .unset] [(.int (7 : Int32)), (.int (4 : Int32))])) _
      refine XS.icmpYes X49.here hx rfl (pc0 := 190) (pc' := 215) rfl (hb hby at_190) rfl (flt (by decide : ¬ ((7 : Int32) < (4 : Int32)))).2.2.2 (by decide) (by decide) ?_
      show Steps p.tables e below (T49.setTop (mkF m 215 #[.val (.int p1), .val (.long q1), .second, .val (.int (4 : Int32)), .val (.ref b33), .val (.int (((((0 : Int32) + (own_at q1 (0 : Int32))) + (own_at q1 (1 : Int32))) + (own_at q1 (2 : Int32))) + (own_at q1 (3 : Int32)))), .unset] [])) _
      refine XS.aload X49.here hx rfl (hb hby at_215) rfl rfl ?_
      show Steps p.tables e below (T49.setTop (mkF m 217 #[.val (.int p1), .val (.long q1), .second, .val (.int (4 : Int32)), .val (.ref b33), .val (.int (((((0 : Int32) + (own_at q1 (0 : Int32))) + (own_at q1 (1 : Int32))) + (own_at q1 (2 : Int32))) + (own_at q1 (3 : Int32)))), .unset] [(.ref b33)])) _
      refine st50 _ ?_
      show Steps p.tables e below (T50.setTop (mkF m 220 #[.val (.int p1), .val (.long q1), .second, .val (.int (4 : Int32)), .val (.ref b33), .val (.int (((((0 : Int32) + (own_at q1 (0 : Int32))) + (own_at q1 (1 : Int32))) + (own_at q1 (2 : Int32))) + (own_at q1 (3 : Int32)))), .unset] [(.int (own_cs [(own_at q1 (0 : Int32)), (own_at q1 (1 : Int32)), (own_at q1 (2 : Int32)), (own_at q1 (3 : Int32))]))])) _
      refine XS.istore X50.here hx rfl (hb hby at_220) rfl (l' := #[.val (.int p1), .val (.long q1), .second, .val (.int (4 : Int32)), .val (.ref b33), .val (.int (((((0 : Int32) + (own_at q1 (0 : Int32))) + (own_at q1 (1 : Int32))) + (own_at q1 (2 : Int32))) + (own_at q1 (3 : Int32)))), .val (.int (own_cs [(own_at q1 (0 : Int32)), (own_at q1 (1 : Int32)), (own_at q1 (2 : Int32)), (own_at q1 (3 : Int32))]))]) rfl ?_
      show Steps p.tables e below (T50.setTop (mkF m 222 #[.val (.int p1), .val (.long q1), .second, .val (.int (4 : Int32)), .val (.ref b33), .val (.int (((((0 : Int32) + (own_at q1 (0 : Int32))) + (own_at q1 (1 : Int32))) + (own_at q1 (2 : Int32))) + (own_at q1 (3 : Int32)))), .val (.int (own_cs [(own_at q1 (0 : Int32)), (own_at q1 (1 : Int32)), (own_at q1 (2 : Int32)), (own_at q1 (3 : Int32))]))] [])) _
      refine XS.iload X50.here hx rfl (hb hby at_222) rfl ?_
      show Steps p.tables e below (T50.setTop (mkF m 224 #[.val (.int p1), .val (.long q1), .second, .val (.int (4 : Int32)), .val (.ref b33), .val (.int (((((0 : Int32) + (own_at q1 (0 : Int32))) + (own_at q1 (1 : Int32))) + (own_at q1 (2 : Int32))) + (own_at q1 (3 : Int32)))), .val (.int (own_cs [(own_at q1 (0 : Int32)), (own_at q1 (1 : Int32)), (own_at q1 (2 : Int32)), (own_at q1 (3 : Int32))]))] [(.int (own_cs [(own_at q1 (0 : Int32)), (own_at q1 (1 : Int32)), (own_at q1 (2 : Int32)), (own_at q1 (3 : Int32))]))])) _
      refine XS.iload X50.here hx rfl (hb hby at_224) rfl ?_
      show Steps p.tables e below (T50.setTop (mkF m 226 #[.val (.int p1), .val (.long q1), .second, .val (.int (4 : Int32)), .val (.ref b33), .val (.int (((((0 : Int32) + (own_at q1 (0 : Int32))) + (own_at q1 (1 : Int32))) + (own_at q1 (2 : Int32))) + (own_at q1 (3 : Int32)))), .val (.int (own_cs [(own_at q1 (0 : Int32)), (own_at q1 (1 : Int32)), (own_at q1 (2 : Int32)), (own_at q1 (3 : Int32))]))] [(.int (((((0 : Int32) + (own_at q1 (0 : Int32))) + (own_at q1 (1 : Int32))) + (own_at q1 (2 : Int32))) + (own_at q1 (3 : Int32)))), (.int (own_cs [(own_at q1 (0 : Int32)), (own_at q1 (1 : Int32)), (own_at q1 (2 : Int32)), (own_at q1 (3 : Int32))]))])) _
      refine XS.sipush X50.here hx rfl (hb hby at_226) ?_
      show Steps p.tables e below (T50.setTop (mkF m 229 #[.val (.int p1), .val (.long q1), .second, .val (.int (4 : Int32)), .val (.ref b33), .val (.int (((((0 : Int32) + (own_at q1 (0 : Int32))) + (own_at q1 (1 : Int32))) + (own_at q1 (2 : Int32))) + (own_at q1 (3 : Int32)))), .val (.int (own_cs [(own_at q1 (0 : Int32)), (own_at q1 (1 : Int32)), (own_at q1 (2 : Int32)), (own_at q1 (3 : Int32))]))] [(.int (255 : Int32)), (.int (((((0 : Int32) + (own_at q1 (0 : Int32))) + (own_at q1 (1 : Int32))) + (own_at q1 (2 : Int32))) + (own_at q1 (3 : Int32)))), (.int (own_cs [(own_at q1 (0 : Int32)), (own_at q1 (1 : Int32)), (own_at q1 (2 : Int32)), (own_at q1 (3 : Int32))]))])) _
      refine XS.iand X50.here hx rfl (hb hby at_229) rfl ?_
      show Steps p.tables e below (T50.setTop (mkF m 230 #[.val (.int p1), .val (.long q1), .second, .val (.int (4 : Int32)), .val (.ref b33), .val (.int (((((0 : Int32) + (own_at q1 (0 : Int32))) + (own_at q1 (1 : Int32))) + (own_at q1 (2 : Int32))) + (own_at q1 (3 : Int32)))), .val (.int (own_cs [(own_at q1 (0 : Int32)), (own_at q1 (1 : Int32)), (own_at q1 (2 : Int32)), (own_at q1 (3 : Int32))]))] [(.int ((((((0 : Int32) + (own_at q1 (0 : Int32))) + (own_at q1 (1 : Int32))) + (own_at q1 (2 : Int32))) + (own_at q1 (3 : Int32))) &&& (255 : Int32))), (.int (own_cs [(own_at q1 (0 : Int32)), (own_at q1 (1 : Int32)), (own_at q1 (2 : Int32)), (own_at q1 (3 : Int32))]))])) _
      refine XS.icmpNo X50.here hx rfl (hb hby at_230) rfl (teq (own_key [(own_at q1 (0 : Int32)), (own_at q1 (1 : Int32)), (own_at q1 (2 : Int32)), (own_at q1 (3 : Int32))] : (own_cs [(own_at q1 (0 : Int32)), (own_at q1 (1 : Int32)), (own_at q1 (2 : Int32)), (own_at q1 (3 : Int32))]) = ((((((0 : Int32) + (own_at q1 (0 : Int32))) + (own_at q1 (1 : Int32))) + (own_at q1 (2 : Int32))) + (own_at q1 (3 : Int32))) &&& (255 : Int32)))).2 ?_
      show Steps p.tables e below (T50.setTop (mkF m 233 #[.val (.int p1), .val (.long q1), .second, .val (.int (4 : Int32)), .val (.ref b33), .val (.int (((((0 : Int32) + (own_at q1 (0 : Int32))) + (own_at q1 (1 : Int32))) + (own_at q1 (2 : Int32))) + (own_at q1 (3 : Int32)))), .val (.int (own_cs [(own_at q1 (0 : Int32)), (own_at q1 (1 : Int32)), (own_at q1 (2 : Int32)), (own_at q1 (3 : Int32))]))] [])) _
      refine XS.iconst X50.here hx rfl (hb hby at_233) ?_
      show Steps p.tables e below (T50.setTop (mkF m 234 #[.val (.int p1), .val (.long q1), .second, .val (.int (4 : Int32)), .val (.ref b33), .val (.int (((((0 : Int32) + (own_at q1 (0 : Int32))) + (own_at q1 (1 : Int32))) + (own_at q1 (2 : Int32))) + (own_at q1 (3 : Int32)))), .val (.int (own_cs [(own_at q1 (0 : Int32)), (own_at q1 (1 : Int32)), (own_at q1 (2 : Int32)), (own_at q1 (3 : Int32))]))] [(.int (1 : Int32))])) _
      refine XS.goto X50.here hx rfl (pc0 := 234) (pc' := 238) rfl (hb hby at_234) (by decide) (by decide) ?_
      show Steps p.tables e below (T50.setTop (mkF m 238 #[.val (.int p1), .val (.long q1), .second, .val (.int (4 : Int32)), .val (.ref b33), .val (.int (((((0 : Int32) + (own_at q1 (0 : Int32))) + (own_at q1 (1 : Int32))) + (own_at q1 (2 : Int32))) + (own_at q1 (3 : Int32)))), .val (.int (own_cs [(own_at q1 (0 : Int32)), (own_at q1 (1 : Int32)), (own_at q1 (2 : Int32)), (own_at q1 (3 : Int32))]))] [(.int (1 : Int32))])) _
      exact retN X50 hx (t := .boolean) Bd.returns (by simp) (hb hby at_238) hr
    · show Qown_law Z p1 q1 h0 n0 _ T50.heap _
      rw [e50]
      exact ⟨rfl, N50⟩
  · obtain ⟨T51, h51, k51, X51, e51, E51, A51, st51⟩ := newP X0 hx hZ (hw _ (List.mem_of_getElem? (i := 1) rfl)) e0 (g := (mkF m 9 #[.val (.int p1), .val (.long q1), .second, .val (.int (5 : Int32)), .unset, .unset, .unset] [(.int (5 : Int32))])) rfl (hb hby at_9) rfl (by decide) (cap := 5) (by decide) (by decide) (by decide) (by decide)
    obtain ⟨b51, g51⟩ : ∃ z, z = h0.size := ⟨_, rfl⟩
    rw [← g51] at A51 st51
    have V51 : Arv Z h51 b51 k51 .byte (5 : Int32) [(.int (0 : Int32)), (.int (0 : Int32)), (.int (0 : Int32)), (.int (0 : Int32)), (.int (0 : Int32))] (.int (0 : Int32)) := (Arv.new A51 (by decide)).pad (pad_rep [] (.int (0 : Int32)) 5)
    have g_b51 : n0 ≤ b51 := Nat.le_trans Z0 (Nat.le_of_eq g51.symm)
    have sz_b51 : h0.size ≤ b51 := Nat.le_trans (Keep.refl h0 []).1 (Nat.le_of_eq g51.symm)
    have Z51 : n0 ≤ h51.size := Nat.le_trans Z0 E51.1
    have K51 : Keep h0 h51 [] := (Keep.refl h0 []).ext E51
    obtain ⟨_, _, ⟨T52, L52, k52, n52⟩, -, X52, ⟨Lc52, hQ52, l52, y52, z52⟩, st52⟩ := Jvm.LawKit.callS X51 hx (y := (⟨"com/example/assaybus/assaybus/link/FrameChecksumPinLaw", "at", "(JI)B"⟩ : MethodName)) hown (mvT hZ (hw _ (List.mem_of_getElem? (i := 6) rfl))) (mvT hZ (hw _ (List.mem_of_getElem? (i := 7) rfl))) (mvT hZ (hw _ (List.mem_of_getElem? (i := 8) rfl))) (mvT hZ (hw _ (List.mem_of_getElem? (i := 9) rfl))) (by decide) (backOf (W := 2) (own_mat l Z a0 hw [] q1 (0 : Int32)  h51 n0 Z51 ) hZ (hw _ (List.mem_of_getElem? (i := 9) rfl)) (hw _ (List.mem_of_getElem? (i := 8) rfl)) (by decide) (by decide)) (g := (mkF m 25 #[.val (.int p1), .val (.long q1), .second, .val (.int (5 : Int32)), .val (.ref b51), .val (.int (0 : Int32)), .unset] [(.int (0 : Int32)), (.long q1), (.int (0 : Int32)), (.ref b51)])) rfl (by rw [hml]; rfl) (argsL := [(.long q1), (.int (0 : Int32))]) (rest := [(.int (0 : Int32)), (.ref b51)]) (lenOf pd__JI_B rfl) rfl (by show 2 * 0 + _ ≤ _; exact Nat.le_of_eq rfl) (hb hby at_25) (fun _ _ => ⟨rfl, e51, (by decide : 1 + 0 ≤ _), (by decide : 5 + 0 ≤ _)⟩)
    dsimp only [Pt.U, Pt.locs, Pt.cells, Pt.slots] at X52 l52 y52 z52 st52 hQ52
    replace X52 := X52.more (Nat.le_of_eq (show k52 = 1 from y52)) (Nat.le_of_eq (show n52 = 5 from z52))
    obtain ⟨rfl, Nq52, e52⟩ := hQ52
    have N52 : Fr n0 L52 := by rw [l52]; exact Fr.app N0 Nq52
    obtain ⟨cl53, Ar53, qc53, S53, Nn53, H53, G53⟩ := id V51
    have hin53 : ¬ ((0 : Int32) < 0 ∨ cl53.slots.size ≤ ((0 : Int32)).toNatClampNeg) := inb_of S53 ⟨by decide, by decide⟩
    obtain ⟨T54, h54, X54, e54, W54, st54⟩ := stB X52 hx hZ e52 Ar53 (j := (0 : Int32)) hin53 (g := (mkF m 28 #[.val (.int p1), .val (.long q1), .second, .val (.int (5 : Int32)), .val (.ref b51), .val (.int (0 : Int32)), .unset] [(.int (own_at q1 (0 : Int32))), (.int (0 : Int32)), (.ref b51)])) rfl rfl (hb hby at_28)
    have V54 : Arv Z h54 b51 k51 .byte (5 : Int32) [(.int (nar .byte (own_at q1 (0 : Int32)))), (.int (0 : Int32)), (.int (0 : Int32)), (.int (0 : Int32)), (.int (0 : Int32))] (.int (0 : Int32)) := Arv.set Ar53 qc53 S53 Nn53 H53 G53 (fits_nar_byte _) W54 0 rfl (Nat.le_of_ble_eq_true rfl)
    have V54v : Arv Z h54 b51 k51 .byte (5 : Int32) [(.int (own_at q1 (0 : Int32))), (.int (0 : Int32)), (.int (0 : Int32)), (.int (0 : Int32)), (.int (0 : Int32))] (.int (0 : Int32)) := by have q := V54; rw [own_nara] at q; exact q
    have K54 : Keep h0 h54 [] := K51.wr W54 (Or.inr sz_b51)
    have N54 := Fr.snoc X54 N52 g_b51
    have Z54 : n0 ≤ h54.size := Nat.le_trans Z51 (Keep.of_wr W54).1
    obtain ⟨_, _, ⟨T55, L55, k55, n55⟩, -, X55, ⟨Lc55, hQ55, l55, y55, z55⟩, st55⟩ := Jvm.LawKit.callS X54 hx (y := (⟨"com/example/assaybus/assaybus/link/FrameChecksumPinLaw", "at", "(JI)B"⟩ : MethodName)) hown (mvT hZ (hw _ (List.mem_of_getElem? (i := 6) rfl))) (mvT hZ (hw _ (List.mem_of_getElem? (i := 7) rfl))) (mvT hZ (hw _ (List.mem_of_getElem? (i := 8) rfl))) (mvT hZ (hw _ (List.mem_of_getElem? (i := 9) rfl))) (by decide) (backOf (W := 1) (own_mat l Z a0 hw [] q1 (0 : Int32)  h54 n0 Z54 ) hZ (hw _ (List.mem_of_getElem? (i := 9) rfl)) (hw _ (List.mem_of_getElem? (i := 8) rfl)) (by decide) (by decide)) (g := (mkF m 33 #[.val (.int p1), .val (.long q1), .second, .val (.int (5 : Int32)), .val (.ref b51), .val (.int (0 : Int32)), .unset] [(.int (0 : Int32)), (.long q1), (.int (0 : Int32))])) rfl (by rw [hml]; rfl) (argsL := [(.long q1), (.int (0 : Int32))]) (rest := [(.int (0 : Int32))]) (lenOf pd__JI_B rfl) rfl (by show 2 * 0 + _ ≤ _; exact Nat.le_of_eq rfl) (hb hby at_33) (fun _ _ => ⟨rfl, e54, (by decide : 1 + 0 ≤ _), (by decide : 5 + 0 ≤ _)⟩)
    dsimp only [Pt.U, Pt.locs, Pt.cells, Pt.slots] at X55 l55 y55 z55 st55 hQ55
    replace X55 := X55.more (Nat.le_of_eq (show k55 = 1 from y55)) (Nat.le_of_eq (show n55 = 5 from z55))
    obtain ⟨rfl, Nq55, e55⟩ := hQ55
    have N55 : Fr n0 L55 := by rw [l55]; exact Fr.app N54 Nq55
    obtain ⟨_, _, ⟨T56, L56, k56, n56⟩, -, X56, ⟨Lc56, hQ56, l56, y56, z56⟩, st56⟩ := Jvm.LawKit.callS X55 hx (y := (⟨"com/example/assaybus/assaybus/link/FrameChecksumPinLaw", "at", "(JI)B"⟩ : MethodName)) hown (mvT hZ (hw _ (List.mem_of_getElem? (i := 6) rfl))) (mvT hZ (hw _ (List.mem_of_getElem? (i := 7) rfl))) (mvT hZ (hw _ (List.mem_of_getElem? (i := 8) rfl))) (mvT hZ (hw _ (List.mem_of_getElem? (i := 9) rfl))) (by decide) (backOf (W := 2) (own_mat l Z a0 hw [] q1 (1 : Int32)  h54 n0 Z54 ) hZ (hw _ (List.mem_of_getElem? (i := 9) rfl)) (hw _ (List.mem_of_getElem? (i := 8) rfl)) (by decide) (by decide)) (g := (mkF m 49 #[.val (.int p1), .val (.long q1), .second, .val (.int (5 : Int32)), .val (.ref b51), .val (.int ((0 : Int32) + (own_at q1 (0 : Int32)))), .unset] [(.int (1 : Int32)), (.long q1), (.int (1 : Int32)), (.ref b51)])) rfl (by rw [hml]; rfl) (argsL := [(.long q1), (.int (1 : Int32))]) (rest := [(.int (1 : Int32)), (.ref b51)]) (lenOf pd__JI_B rfl) rfl (by show 2 * 0 + _ ≤ _; exact Nat.le_of_eq rfl) (hb hby at_49) (fun _ _ => ⟨rfl, e55, (by decide : 1 + 0 ≤ _), (by decide : 5 + 0 ≤ _)⟩)
    dsimp only [Pt.U, Pt.locs, Pt.cells, Pt.slots] at X56 l56 y56 z56 st56 hQ56
    replace X56 := X56.more (Nat.le_of_eq (show k56 = 1 from y56)) (Nat.le_of_eq (show n56 = 5 from z56))
    obtain ⟨rfl, Nq56, e56⟩ := hQ56
    have N56 : Fr n0 L56 := by rw [l56]; exact Fr.app N55 Nq56
    obtain ⟨cl57, Ar57, qc57, S57, Nn57, H57, G57⟩ := id V54v
    have hin57 : ¬ ((1 : Int32) < 0 ∨ cl57.slots.size ≤ ((1 : Int32)).toNatClampNeg) := inb_of S57 ⟨by decide, by decide⟩
    obtain ⟨T58, h58, X58, e58, W58, st58⟩ := stB X56 hx hZ e56 Ar57 (j := (1 : Int32)) hin57 (g := (mkF m 52 #[.val (.int p1), .val (.long q1), .second, .val (.int (5 : Int32)), .val (.ref b51), .val (.int ((0 : Int32) + (own_at q1 (0 : Int32)))), .unset] [(.int (own_at q1 (1 : Int32))), (.int (1 : Int32)), (.ref b51)])) rfl rfl (hb hby at_52)
    have V58 : Arv Z h58 b51 k51 .byte (5 : Int32) [(.int (own_at q1 (0 : Int32))), (.int (nar .byte (own_at q1 (1 : Int32)))), (.int (0 : Int32)), (.int (0 : Int32)), (.int (0 : Int32))] (.int (0 : Int32)) := Arv.set Ar57 qc57 S57 Nn57 H57 G57 (fits_nar_byte _) W58 1 rfl (Nat.le_of_ble_eq_true rfl)
    have V58v : Arv Z h58 b51 k51 .byte (5 : Int32) [(.int (own_at q1 (0 : Int32))), (.int (own_at q1 (1 : Int32))), (.int (0 : Int32)), (.int (0 : Int32)), (.int (0 : Int32))] (.int (0 : Int32)) := by have q := V58; rw [own_nara] at q; exact q
    have K58 : Keep h0 h58 [] := K54.wr W58 (Or.inr sz_b51)
    have N58 := Fr.snoc X58 N56 g_b51
    have Z58 : n0 ≤ h58.size := Nat.le_trans Z54 (Keep.of_wr W58).1
    obtain ⟨_, _, ⟨T59, L59, k59, n59⟩, -, X59, ⟨Lc59, hQ59, l59, y59, z59⟩, st59⟩ := Jvm.LawKit.callS X58 hx (y := (⟨"com/example/assaybus/assaybus/link/FrameChecksumPinLaw", "at", "(JI)B"⟩ : MethodName)) hown (mvT hZ (hw _ (List.mem_of_getElem? (i := 6) rfl))) (mvT hZ (hw _ (List.mem_of_getElem? (i := 7) rfl))) (mvT hZ (hw _ (List.mem_of_getElem? (i := 8) rfl))) (mvT hZ (hw _ (List.mem_of_getElem? (i := 9) rfl))) (by decide) (backOf (W := 1) (own_mat l Z a0 hw [] q1 (1 : Int32)  h58 n0 Z58 ) hZ (hw _ (List.mem_of_getElem? (i := 9) rfl)) (hw _ (List.mem_of_getElem? (i := 8) rfl)) (by decide) (by decide)) (g := (mkF m 57 #[.val (.int p1), .val (.long q1), .second, .val (.int (5 : Int32)), .val (.ref b51), .val (.int ((0 : Int32) + (own_at q1 (0 : Int32)))), .unset] [(.int (1 : Int32)), (.long q1), (.int ((0 : Int32) + (own_at q1 (0 : Int32))))])) rfl (by rw [hml]; rfl) (argsL := [(.long q1), (.int (1 : Int32))]) (rest := [(.int ((0 : Int32) + (own_at q1 (0 : Int32))))]) (lenOf pd__JI_B rfl) rfl (by show 2 * 0 + _ ≤ _; exact Nat.le_of_eq rfl) (hb hby at_57) (fun _ _ => ⟨rfl, e58, (by decide : 1 + 0 ≤ _), (by decide : 5 + 0 ≤ _)⟩)
    dsimp only [Pt.U, Pt.locs, Pt.cells, Pt.slots] at X59 l59 y59 z59 st59 hQ59
    replace X59 := X59.more (Nat.le_of_eq (show k59 = 1 from y59)) (Nat.le_of_eq (show n59 = 5 from z59))
    obtain ⟨rfl, Nq59, e59⟩ := hQ59
    have N59 : Fr n0 L59 := by rw [l59]; exact Fr.app N58 Nq59
    obtain ⟨_, _, ⟨T60, L60, k60, n60⟩, -, X60, ⟨Lc60, hQ60, l60, y60, z60⟩, st60⟩ := Jvm.LawKit.callS X59 hx (y := (⟨"com/example/assaybus/assaybus/link/FrameChecksumPinLaw", "at", "(JI)B"⟩ : MethodName)) hown (mvT hZ (hw _ (List.mem_of_getElem? (i := 6) rfl))) (mvT hZ (hw _ (List.mem_of_getElem? (i := 7) rfl))) (mvT hZ (hw _ (List.mem_of_getElem? (i := 8) rfl))) (mvT hZ (hw _ (List.mem_of_getElem? (i := 9) rfl))) (by decide) (backOf (W := 2) (own_mat l Z a0 hw [] q1 (2 : Int32)  h58 n0 Z58 ) hZ (hw _ (List.mem_of_getElem? (i := 9) rfl)) (hw _ (List.mem_of_getElem? (i := 8) rfl)) (by decide) (by decide)) (g := (mkF m 73 #[.val (.int p1), .val (.long q1), .second, .val (.int (5 : Int32)), .val (.ref b51), .val (.int (((0 : Int32) + (own_at q1 (0 : Int32))) + (own_at q1 (1 : Int32)))), .unset] [(.int (2 : Int32)), (.long q1), (.int (2 : Int32)), (.ref b51)])) rfl (by rw [hml]; rfl) (argsL := [(.long q1), (.int (2 : Int32))]) (rest := [(.int (2 : Int32)), (.ref b51)]) (lenOf pd__JI_B rfl) rfl (by show 2 * 0 + _ ≤ _; exact Nat.le_of_eq rfl) (hb hby at_73) (fun _ _ => ⟨rfl, e59, (by decide : 1 + 0 ≤ _), (by decide : 5 + 0 ≤ _)⟩)
    dsimp only [Pt.U, Pt.locs, Pt.cells, Pt.slots] at X60 l60 y60 z60 st60 hQ60
    replace X60 := X60.more (Nat.le_of_eq (show k60 = 1 from y60)) (Nat.le_of_eq (show n60 = 5 from z60))
    obtain ⟨rfl, Nq60, e60⟩ := hQ60
    have N60 : Fr n0 L60 := by rw [l60]; exact Fr.app N59 Nq60
    obtain ⟨cl61, Ar61, qc61, S61, Nn61, H61, G61⟩ := id V58v
    have hin61 : ¬ ((2 : Int32) < 0 ∨ cl61.slots.size ≤ ((2 : Int32)).toNatClampNeg) := inb_of S61 ⟨by decide, by decide⟩
    obtain ⟨T62, h62, X62, e62, W62, st62⟩ := stB X60 hx hZ e60 Ar61 (j := (2 : Int32)) hin61 (g := (mkF m 76 #[.val (.int p1), .val (.long q1), .second, .val (.int (5 : Int32)), .val (.ref b51), .val (.int (((0 : Int32) + (own_at q1 (0 : Int32))) + (own_at q1 (1 : Int32)))), .unset] [(.int (own_at q1 (2 : Int32))), (.int (2 : Int32)), (.ref b51)])) rfl rfl (hb hby at_76)
    have V62 : Arv Z h62 b51 k51 .byte (5 : Int32) [(.int (own_at q1 (0 : Int32))), (.int (own_at q1 (1 : Int32))), (.int (nar .byte (own_at q1 (2 : Int32)))), (.int (0 : Int32)), (.int (0 : Int32))] (.int (0 : Int32)) := Arv.set Ar61 qc61 S61 Nn61 H61 G61 (fits_nar_byte _) W62 2 rfl (Nat.le_of_ble_eq_true rfl)
    have V62v : Arv Z h62 b51 k51 .byte (5 : Int32) [(.int (own_at q1 (0 : Int32))), (.int (own_at q1 (1 : Int32))), (.int (own_at q1 (2 : Int32))), (.int (0 : Int32)), (.int (0 : Int32))] (.int (0 : Int32)) := by have q := V62; rw [own_nara] at q; exact q
    have K62 : Keep h0 h62 [] := K58.wr W62 (Or.inr sz_b51)
    have N62 := Fr.snoc X62 N60 g_b51
    have Z62 : n0 ≤ h62.size := Nat.le_trans Z58 (Keep.of_wr W62).1
    obtain ⟨_, _, ⟨T63, L63, k63, n63⟩, -, X63, ⟨Lc63, hQ63, l63, y63, z63⟩, st63⟩ := Jvm.LawKit.callS X62 hx (y := (⟨"com/example/assaybus/assaybus/link/FrameChecksumPinLaw", "at", "(JI)B"⟩ : MethodName)) hown (mvT hZ (hw _ (List.mem_of_getElem? (i := 6) rfl))) (mvT hZ (hw _ (List.mem_of_getElem? (i := 7) rfl))) (mvT hZ (hw _ (List.mem_of_getElem? (i := 8) rfl))) (mvT hZ (hw _ (List.mem_of_getElem? (i := 9) rfl))) (by decide) (backOf (W := 1) (own_mat l Z a0 hw [] q1 (2 : Int32)  h62 n0 Z62 ) hZ (hw _ (List.mem_of_getElem? (i := 9) rfl)) (hw _ (List.mem_of_getElem? (i := 8) rfl)) (by decide) (by decide)) (g := (mkF m 81 #[.val (.int p1), .val (.long q1), .second, .val (.int (5 : Int32)), .val (.ref b51), .val (.int (((0 : Int32) + (own_at q1 (0 : Int32))) + (own_at q1 (1 : Int32)))), .unset] [(.int (2 : Int32)), (.long q1), (.int (((0 : Int32) + (own_at q1 (0 : Int32))) + (own_at q1 (1 : Int32))))])) rfl (by rw [hml]; rfl) (argsL := [(.long q1), (.int (2 : Int32))]) (rest := [(.int (((0 : Int32) + (own_at q1 (0 : Int32))) + (own_at q1 (1 : Int32))))]) (lenOf pd__JI_B rfl) rfl (by show 2 * 0 + _ ≤ _; exact Nat.le_of_eq rfl) (hb hby at_81) (fun _ _ => ⟨rfl, e62, (by decide : 1 + 0 ≤ _), (by decide : 5 + 0 ≤ _)⟩)
    dsimp only [Pt.U, Pt.locs, Pt.cells, Pt.slots] at X63 l63 y63 z63 st63 hQ63
    replace X63 := X63.more (Nat.le_of_eq (show k63 = 1 from y63)) (Nat.le_of_eq (show n63 = 5 from z63))
    obtain ⟨rfl, Nq63, e63⟩ := hQ63
    have N63 : Fr n0 L63 := by rw [l63]; exact Fr.app N62 Nq63
    obtain ⟨_, _, ⟨T64, L64, k64, n64⟩, -, X64, ⟨Lc64, hQ64, l64, y64, z64⟩, st64⟩ := Jvm.LawKit.callS X63 hx (y := (⟨"com/example/assaybus/assaybus/link/FrameChecksumPinLaw", "at", "(JI)B"⟩ : MethodName)) hown (mvT hZ (hw _ (List.mem_of_getElem? (i := 6) rfl))) (mvT hZ (hw _ (List.mem_of_getElem? (i := 7) rfl))) (mvT hZ (hw _ (List.mem_of_getElem? (i := 8) rfl))) (mvT hZ (hw _ (List.mem_of_getElem? (i := 9) rfl))) (by decide) (backOf (W := 2) (own_mat l Z a0 hw [] q1 (3 : Int32)  h62 n0 Z62 ) hZ (hw _ (List.mem_of_getElem? (i := 9) rfl)) (hw _ (List.mem_of_getElem? (i := 8) rfl)) (by decide) (by decide)) (g := (mkF m 97 #[.val (.int p1), .val (.long q1), .second, .val (.int (5 : Int32)), .val (.ref b51), .val (.int ((((0 : Int32) + (own_at q1 (0 : Int32))) + (own_at q1 (1 : Int32))) + (own_at q1 (2 : Int32)))), .unset] [(.int (3 : Int32)), (.long q1), (.int (3 : Int32)), (.ref b51)])) rfl (by rw [hml]; rfl) (argsL := [(.long q1), (.int (3 : Int32))]) (rest := [(.int (3 : Int32)), (.ref b51)]) (lenOf pd__JI_B rfl) rfl (by show 2 * 0 + _ ≤ _; exact Nat.le_of_eq rfl) (hb hby at_97) (fun _ _ => ⟨rfl, e63, (by decide : 1 + 0 ≤ _), (by decide : 5 + 0 ≤ _)⟩)
    dsimp only [Pt.U, Pt.locs, Pt.cells, Pt.slots] at X64 l64 y64 z64 st64 hQ64
    replace X64 := X64.more (Nat.le_of_eq (show k64 = 1 from y64)) (Nat.le_of_eq (show n64 = 5 from z64))
    obtain ⟨rfl, Nq64, e64⟩ := hQ64
    have N64 : Fr n0 L64 := by rw [l64]; exact Fr.app N63 Nq64
    obtain ⟨cl65, Ar65, qc65, S65, Nn65, H65, G65⟩ := id V62v
    have hin65 : ¬ ((3 : Int32) < 0 ∨ cl65.slots.size ≤ ((3 : Int32)).toNatClampNeg) := inb_of S65 ⟨by decide, by decide⟩
    obtain ⟨T66, h66, X66, e66, W66, st66⟩ := stB X64 hx hZ e64 Ar65 (j := (3 : Int32)) hin65 (g := (mkF m 100 #[.val (.int p1), .val (.long q1), .second, .val (.int (5 : Int32)), .val (.ref b51), .val (.int ((((0 : Int32) + (own_at q1 (0 : Int32))) + (own_at q1 (1 : Int32))) + (own_at q1 (2 : Int32)))), .unset] [(.int (own_at q1 (3 : Int32))), (.int (3 : Int32)), (.ref b51)])) rfl rfl (hb hby at_100)
    have V66 : Arv Z h66 b51 k51 .byte (5 : Int32) [(.int (own_at q1 (0 : Int32))), (.int (own_at q1 (1 : Int32))), (.int (own_at q1 (2 : Int32))), (.int (nar .byte (own_at q1 (3 : Int32)))), (.int (0 : Int32))] (.int (0 : Int32)) := Arv.set Ar65 qc65 S65 Nn65 H65 G65 (fits_nar_byte _) W66 3 rfl (Nat.le_of_ble_eq_true rfl)
    have V66v : Arv Z h66 b51 k51 .byte (5 : Int32) [(.int (own_at q1 (0 : Int32))), (.int (own_at q1 (1 : Int32))), (.int (own_at q1 (2 : Int32))), (.int (own_at q1 (3 : Int32))), (.int (0 : Int32))] (.int (0 : Int32)) := by have q := V66; rw [own_nara] at q; exact q
    have K66 : Keep h0 h66 [] := K62.wr W66 (Or.inr sz_b51)
    have N66 := Fr.snoc X66 N64 g_b51
    have Z66 : n0 ≤ h66.size := Nat.le_trans Z62 (Keep.of_wr W66).1
    obtain ⟨_, _, ⟨T67, L67, k67, n67⟩, -, X67, ⟨Lc67, hQ67, l67, y67, z67⟩, st67⟩ := Jvm.LawKit.callS X66 hx (y := (⟨"com/example/assaybus/assaybus/link/FrameChecksumPinLaw", "at", "(JI)B"⟩ : MethodName)) hown (mvT hZ (hw _ (List.mem_of_getElem? (i := 6) rfl))) (mvT hZ (hw _ (List.mem_of_getElem? (i := 7) rfl))) (mvT hZ (hw _ (List.mem_of_getElem? (i := 8) rfl))) (mvT hZ (hw _ (List.mem_of_getElem? (i := 9) rfl))) (by decide) (backOf (W := 1) (own_mat l Z a0 hw [] q1 (3 : Int32)  h66 n0 Z66 ) hZ (hw _ (List.mem_of_getElem? (i := 9) rfl)) (hw _ (List.mem_of_getElem? (i := 8) rfl)) (by decide) (by decide)) (g := (mkF m 105 #[.val (.int p1), .val (.long q1), .second, .val (.int (5 : Int32)), .val (.ref b51), .val (.int ((((0 : Int32) + (own_at q1 (0 : Int32))) + (own_at q1 (1 : Int32))) + (own_at q1 (2 : Int32)))), .unset] [(.int (3 : Int32)), (.long q1), (.int ((((0 : Int32) + (own_at q1 (0 : Int32))) + (own_at q1 (1 : Int32))) + (own_at q1 (2 : Int32))))])) rfl (by rw [hml]; rfl) (argsL := [(.long q1), (.int (3 : Int32))]) (rest := [(.int ((((0 : Int32) + (own_at q1 (0 : Int32))) + (own_at q1 (1 : Int32))) + (own_at q1 (2 : Int32))))]) (lenOf pd__JI_B rfl) rfl (by show 2 * 0 + _ ≤ _; exact Nat.le_of_eq rfl) (hb hby at_105) (fun _ _ => ⟨rfl, e66, (by decide : 1 + 0 ≤ _), (by decide : 5 + 0 ≤ _)⟩)
    dsimp only [Pt.U, Pt.locs, Pt.cells, Pt.slots] at X67 l67 y67 z67 st67 hQ67
    replace X67 := X67.more (Nat.le_of_eq (show k67 = 1 from y67)) (Nat.le_of_eq (show n67 = 5 from z67))
    obtain ⟨rfl, Nq67, e67⟩ := hQ67
    have N67 : Fr n0 L67 := by rw [l67]; exact Fr.app N66 Nq67
    obtain ⟨_, _, ⟨T68, L68, k68, n68⟩, -, X68, ⟨Lc68, hQ68, l68, y68, z68⟩, st68⟩ := Jvm.LawKit.callS X67 hx (y := (⟨"com/example/assaybus/assaybus/link/FrameChecksumPinLaw", "at", "(JI)B"⟩ : MethodName)) hown (mvT hZ (hw _ (List.mem_of_getElem? (i := 6) rfl))) (mvT hZ (hw _ (List.mem_of_getElem? (i := 7) rfl))) (mvT hZ (hw _ (List.mem_of_getElem? (i := 8) rfl))) (mvT hZ (hw _ (List.mem_of_getElem? (i := 9) rfl))) (by decide) (backOf (W := 2) (own_mat l Z a0 hw [] q1 (4 : Int32)  h66 n0 Z66 ) hZ (hw _ (List.mem_of_getElem? (i := 9) rfl)) (hw _ (List.mem_of_getElem? (i := 8) rfl)) (by decide) (by decide)) (g := (mkF m 121 #[.val (.int p1), .val (.long q1), .second, .val (.int (5 : Int32)), .val (.ref b51), .val (.int (((((0 : Int32) + (own_at q1 (0 : Int32))) + (own_at q1 (1 : Int32))) + (own_at q1 (2 : Int32))) + (own_at q1 (3 : Int32)))), .unset] [(.int (4 : Int32)), (.long q1), (.int (4 : Int32)), (.ref b51)])) rfl (by rw [hml]; rfl) (argsL := [(.long q1), (.int (4 : Int32))]) (rest := [(.int (4 : Int32)), (.ref b51)]) (lenOf pd__JI_B rfl) rfl (by show 2 * 0 + _ ≤ _; exact Nat.le_of_eq rfl) (hb hby at_121) (fun _ _ => ⟨rfl, e67, (by decide : 1 + 0 ≤ _), (by decide : 5 + 0 ≤ _)⟩)
    dsimp only [Pt.U, Pt.locs, Pt.cells, Pt.slots] at X68 l68 y68 z68 st68 hQ68
    replace X68 := X68.more (Nat.le_of_eq (show k68 = 1 from y68)) (Nat.le_of_eq (show n68 = 5 from z68))
    obtain ⟨rfl, Nq68, e68⟩ := hQ68
    have N68 : Fr n0 L68 := by rw [l68]; exact Fr.app N67 Nq68
    obtain ⟨cl69, Ar69, qc69, S69, Nn69, H69, G69⟩ := id V66v
    have hin69 : ¬ ((4 : Int32) < 0 ∨ cl69.slots.size ≤ ((4 : Int32)).toNatClampNeg) := inb_of S69 ⟨by decide, by decide⟩
    obtain ⟨T70, h70, X70, e70, W70, st70⟩ := stB X68 hx hZ e68 Ar69 (j := (4 : Int32)) hin69 (g := (mkF m 124 #[.val (.int p1), .val (.long q1), .second, .val (.int (5 : Int32)), .val (.ref b51), .val (.int (((((0 : Int32) + (own_at q1 (0 : Int32))) + (own_at q1 (1 : Int32))) + (own_at q1 (2 : Int32))) + (own_at q1 (3 : Int32)))), .unset] [(.int (own_at q1 (4 : Int32))), (.int (4 : Int32)), (.ref b51)])) rfl rfl (hb hby at_124)
    have V70 : Arv Z h70 b51 k51 .byte (5 : Int32) [(.int (own_at q1 (0 : Int32))), (.int (own_at q1 (1 : Int32))), (.int (own_at q1 (2 : Int32))), (.int (own_at q1 (3 : Int32))), (.int (nar .byte (own_at q1 (4 : Int32))))] (.int (0 : Int32)) := Arv.set Ar69 qc69 S69 Nn69 H69 G69 (fits_nar_byte _) W70 4 rfl (Nat.le_of_ble_eq_true rfl)
    have V70v : Arv Z h70 b51 k51 .byte (5 : Int32) [(.int (own_at q1 (0 : Int32))), (.int (own_at q1 (1 : Int32))), (.int (own_at q1 (2 : Int32))), (.int (own_at q1 (3 : Int32))), (.int (own_at q1 (4 : Int32)))] (.int (0 : Int32)) := by have q := V70; rw [own_nara] at q; exact q
    have K70 : Keep h0 h70 [] := K66.wr W70 (Or.inr sz_b51)
    have N70 := Fr.snoc X70 N68 g_b51
    have Z70 : n0 ≤ h70.size := Nat.le_trans Z66 (Keep.of_wr W70).1
    obtain ⟨_, _, ⟨T71, L71, k71, n71⟩, -, X71, ⟨Lc71, hQ71, l71, y71, z71⟩, st71⟩ := Jvm.LawKit.callS X70 hx (y := (⟨"com/example/assaybus/assaybus/link/FrameChecksumPinLaw", "at", "(JI)B"⟩ : MethodName)) hown (mvT hZ (hw _ (List.mem_of_getElem? (i := 6) rfl))) (mvT hZ (hw _ (List.mem_of_getElem? (i := 7) rfl))) (mvT hZ (hw _ (List.mem_of_getElem? (i := 8) rfl))) (mvT hZ (hw _ (List.mem_of_getElem? (i := 9) rfl))) (by decide) (backOf (W := 1) (own_mat l Z a0 hw [] q1 (4 : Int32)  h70 n0 Z70 ) hZ (hw _ (List.mem_of_getElem? (i := 9) rfl)) (hw _ (List.mem_of_getElem? (i := 8) rfl)) (by decide) (by decide)) (g := (mkF m 129 #[.val (.int p1), .val (.long q1), .second, .val (.int (5 : Int32)), .val (.ref b51), .val (.int (((((0 : Int32) + (own_at q1 (0 : Int32))) + (own_at q1 (1 : Int32))) + (own_at q1 (2 : Int32))) + (own_at q1 (3 : Int32)))), .unset] [(.int (4 : Int32)), (.long q1), (.int (((((0 : Int32) + (own_at q1 (0 : Int32))) + (own_at q1 (1 : Int32))) + (own_at q1 (2 : Int32))) + (own_at q1 (3 : Int32))))])) rfl (by rw [hml]; rfl) (argsL := [(.long q1), (.int (4 : Int32))]) (rest := [(.int (((((0 : Int32) + (own_at q1 (0 : Int32))) + (own_at q1 (1 : Int32))) + (own_at q1 (2 : Int32))) + (own_at q1 (3 : Int32))))]) (lenOf pd__JI_B rfl) rfl (by show 2 * 0 + _ ≤ _; exact Nat.le_of_eq rfl) (hb hby at_129) (fun _ _ => ⟨rfl, e70, (by decide : 1 + 0 ≤ _), (by decide : 5 + 0 ≤ _)⟩)
    dsimp only [Pt.U, Pt.locs, Pt.cells, Pt.slots] at X71 l71 y71 z71 st71 hQ71
    replace X71 := X71.more (Nat.le_of_eq (show k71 = 1 from y71)) (Nat.le_of_eq (show n71 = 5 from z71))
    obtain ⟨rfl, Nq71, e71⟩ := hQ71
    have N71 : Fr n0 L71 := by rw [l71]; exact Fr.app N70 Nq71
    obtain ⟨_, _, ⟨T72, L72, k72, n72⟩, -, X72, ⟨Lc72, hQ72, l72, y72, z72⟩, st72⟩ := Jvm.LawKit.callS X71 hx (y := (⟨"com/example/assaybus/assaybus/link/Frame", "checksum", "([B)I"⟩ : MethodName)) hown (mvT hZ (hw _ (List.mem_of_getElem? (i := 2) rfl))) (mvT hZ (hw _ (List.mem_of_getElem? (i := 3) rfl))) (mvT hZ (hw _ (List.mem_of_getElem? (i := 4) rfl))) (mvT hZ (hw _ (List.mem_of_getElem? (i := 5) rfl))) (by decide) (backOf (W := 0) (own_sumof l Z a0 hw [] b51 k51 (5 : Int32) [(own_at q1 (0 : Int32)), (own_at q1 (1 : Int32)), (own_at q1 (2 : Int32)), (own_at q1 (3 : Int32)), (own_at q1 (4 : Int32))] h70 n0 Z70 V70v rfl) hZ (hw _ (List.mem_of_getElem? (i := 5) rfl)) (hw _ (List.mem_of_getElem? (i := 4) rfl)) (by decide) (by decide)) (g := (mkF m 217 #[.val (.int p1), .val (.long q1), .second, .val (.int (5 : Int32)), .val (.ref b51), .val (.int ((((((0 : Int32) + (own_at q1 (0 : Int32))) + (own_at q1 (1 : Int32))) + (own_at q1 (2 : Int32))) + (own_at q1 (3 : Int32))) + (own_at q1 (4 : Int32)))), .unset] [(.ref b51)])) rfl (by rw [hml]; rfl) (argsL := [(.ref b51)]) (rest := []) (lenOf pd___B_I rfl) rfl (by show 2 * 0 + _ ≤ _; exact Nat.le_of_eq rfl) (hb hby at_217) (fun _ _ => ⟨rfl, e71, (by decide : 1 + 0 ≤ _), (by decide : 5 + 0 ≤ _)⟩)
    dsimp only [Pt.U, Pt.locs, Pt.cells, Pt.slots] at X72 l72 y72 z72 st72 hQ72
    replace X72 := X72.more (Nat.le_of_eq (show k72 = 1 from y72)) (Nat.le_of_eq (show n72 = 5 from z72))
    obtain ⟨rfl, Nq72, e72⟩ := hQ72
    have N72 : Fr n0 L72 := by rw [l72]; exact Fr.app N71 Nq72
    obtain ⟨fs, hr, hrun, hended, hW, hsame⟩ := X72.leave (v := some (.int (1 : Int32))) (fun h => by rw [Bd.returns] at h; cases h)
    refine ⟨_, _, pre0 _ ?_, hrun, hended, _, _, rfl, ?_, ⟨_, rfl⟩, hW, hsame.mono (by decide) (by decide)⟩
    · show Steps p.tables e below (s₁.setTop (mkF m 0 #[.val (.int p1), .val (.long q1), .second, .unset, .unset, .unset, .unset] [])) _
      refine XS.iloadN X0.here hx rfl (hb hby at_0) rfl ?_
      show Steps p.tables e below (s₁.setTop (mkF m 1 #[.val (.int p1), .val (.long q1), .second, .unset, .unset, .unset, .unset] [(.int p1)])) _
      refine X0.ldcInt hx hown (mvT hZ (hw _ (List.mem_of_getElem? (i := 0) rfl))) (g := (mkF m 1 #[.val (.int p1), .val (.long q1), .second, .unset, .unset, .unset, .unset] [(.int p1)])) rfl (hb hby at_1) _ ?_
      show Steps p.tables e below (s₁.setTop (mkF m 3 #[.val (.int p1), .val (.long q1), .second, .unset, .unset, .unset, .unset] [(.int (2147483647 : Int32)), (.int p1)])) _
      refine XS.iand X0.here hx rfl (hb hby at_3) rfl ?_
      show Steps p.tables e below (s₁.setTop (mkF m 4 #[.val (.int p1), .val (.long q1), .second, .unset, .unset, .unset, .unset] [(.int (p1 &&& (2147483647 : Int32)))])) _
      refine XS.bipush X0.here hx rfl (hb hby at_4) ?_
      show Steps p.tables e below (s₁.setTop (mkF m 6 #[.val (.int p1), .val (.long q1), .second, .unset, .unset, .unset, .unset] [(.int (9 : Int32)), (.int (p1 &&& (2147483647 : Int32)))])) _
      refine iremM X0 hx rfl (hb hby at_6) rfl (by decide) ?_
      show Steps p.tables e below (s₁.setTop (mkF m 7 #[.val (.int p1), .val (.long q1), .second, .unset, .unset, .unset, .unset] [(.int ((p1 &&& (2147483647 : Int32)) % (9 : Int32)))])) _
      rw [hl]
      show Steps p.tables e below (s₁.setTop (mkF m 7 #[.val (.int p1), .val (.long q1), .second, .unset, .unset, .unset, .unset] [(.int (5 : Int32))])) _
      refine XS.istoreN X0.here hx rfl (hb hby at_7) rfl (l' := #[.val (.int p1), .val (.long q1), .second, .val (.int (5 : Int32)), .unset, .unset, .unset]) rfl ?_
      show Steps p.tables e below (s₁.setTop (mkF m 8 #[.val (.int p1), .val (.long q1), .second, .val (.int (5 : Int32)), .unset, .unset, .unset] [])) _
      refine XS.iloadN X0.here hx rfl (hb hby at_8) rfl ?_
      show Steps p.tables e below (s₁.setTop (mkF m 9 #[.val (.int p1), .val (.long q1), .second, .val (.int (5 : Int32)), .unset, .unset, .unset] [(.int (5 : Int32))])) _
      refine st51 _ ?_
      show Steps p.tables e below (T51.setTop (mkF m 11 #[.val (.int p1), .val (.long q1), .second, .val (.int (5 : Int32)), .unset, .unset, .unset] [(.ref b51)])) _
      refine XS.astore X51.here hx rfl (hb hby at_11) rfl rfl (l' := #[.val (.int p1), .val (.long q1), .second, .val (.int (5 : Int32)), .val (.ref b51), .unset, .unset]) rfl ?_
      show Steps p.tables e below (T51.setTop (mkF m 13 #[.val (.int p1), .val (.long q1), .second, .val (.int (5 : Int32)), .val (.ref b51), .unset, .unset] [])) _
      refine XS.iconst X51.here hx rfl (hb hby at_13) ?_
      show Steps p.tables e below (T51.setTop (mkF m 14 #[.val (.int p1), .val (.long q1), .second, .val (.int (5 : Int32)), .val (.ref b51), .unset, .unset] [(.int (0 : Int32))])) _
      refine XS.istore X51.here hx rfl (hb hby at_14) rfl (l' := #[.val (.int p1), .val (.long q1), .second, .val (.int (5 : Int32)), .val (.ref b51), .val (.int (0 : Int32)), .unset]) rfl ?_
      show Steps p.tables e below (T51.setTop (mkF m 16 #[.val (.int p1), .val (.long q1), .second, .val (.int (5 : Int32)), .val (.ref b51), .val (.int (0 : Int32)), .unset] [])) _
      refine XS.iloadN X51.here hx rfl (hb hby at_16) rfl ?_
      show Steps p.tables e below (T51.setTop (mkF m 17 #[.val (.int p1), .val (.long q1), .second, .val (.int (5 : Int32)), .val (.ref b51), .val (.int (0 : Int32)), .unset] [(.int (5 : Int32))])) _
      refine XS.ifNo X51.here hx rfl (hb hby at_17) rfl ((if0 _ _).trans (tlt (by decide : (0 : Int32) < (5 : Int32))).2.2.2) ?_
      show Steps p.tables e below (T51.setTop (mkF m 20 #[.val (.int p1), .val (.long q1), .second, .val (.int (5 : Int32)), .val (.ref b51), .val (.int (0 : Int32)), .unset] [])) _
      refine XS.aload X51.here hx rfl (hb hby at_20) rfl rfl ?_
      show Steps p.tables e below (T51.setTop (mkF m 22 #[.val (.int p1), .val (.long q1), .second, .val (.int (5 : Int32)), .val (.ref b51), .val (.int (0 : Int32)), .unset] [(.ref b51)])) _
      refine XS.iconst X51.here hx rfl (hb hby at_22) ?_
      show Steps p.tables e below (T51.setTop (mkF m 23 #[.val (.int p1), .val (.long q1), .second, .val (.int (5 : Int32)), .val (.ref b51), .val (.int (0 : Int32)), .unset] [(.int (0 : Int32)), (.ref b51)])) _
      refine XS.lloadN X51.here hx rfl (hb hby at_23) rfl ?_
      show Steps p.tables e below (T51.setTop (mkF m 24 #[.val (.int p1), .val (.long q1), .second, .val (.int (5 : Int32)), .val (.ref b51), .val (.int (0 : Int32)), .unset] [(.long q1), (.int (0 : Int32)), (.ref b51)])) _
      refine XS.iconst X51.here hx rfl (hb hby at_24) ?_
      show Steps p.tables e below (T51.setTop (mkF m 25 #[.val (.int p1), .val (.long q1), .second, .val (.int (5 : Int32)), .val (.ref b51), .val (.int (0 : Int32)), .unset] [(.int (0 : Int32)), (.long q1), (.int (0 : Int32)), (.ref b51)])) _
      refine st52 _ ?_
      show Steps p.tables e below (T52.setTop (mkF m 28 #[.val (.int p1), .val (.long q1), .second, .val (.int (5 : Int32)), .val (.ref b51), .val (.int (0 : Int32)), .unset] [(.int (own_at q1 (0 : Int32))), (.int (0 : Int32)), (.ref b51)])) _
      refine st54 _ ?_
      show Steps p.tables e below (T54.setTop (mkF m 29 #[.val (.int p1), .val (.long q1), .second, .val (.int (5 : Int32)), .val (.ref b51), .val (.int (0 : Int32)), .unset] [])) _
      refine XS.iload X54.here hx rfl (hb hby at_29) rfl ?_
      show Steps p.tables e below (T54.setTop (mkF m 31 #[.val (.int p1), .val (.long q1), .second, .val (.int (5 : Int32)), .val (.ref b51), .val (.int (0 : Int32)), .unset] [(.int (0 : Int32))])) _
      refine XS.lloadN X54.here hx rfl (hb hby at_31) rfl ?_
      show Steps p.tables e below (T54.setTop (mkF m 32 #[.val (.int p1), .val (.long q1), .second, .val (.int (5 : Int32)), .val (.ref b51), .val (.int (0 : Int32)), .unset] [(.long q1), (.int (0 : Int32))])) _
      refine XS.iconst X54.here hx rfl (hb hby at_32) ?_
      show Steps p.tables e below (T54.setTop (mkF m 33 #[.val (.int p1), .val (.long q1), .second, .val (.int (5 : Int32)), .val (.ref b51), .val (.int (0 : Int32)), .unset] [(.int (0 : Int32)), (.long q1), (.int (0 : Int32))])) _
      refine st55 _ ?_
      show Steps p.tables e below (T55.setTop (mkF m 36 #[.val (.int p1), .val (.long q1), .second, .val (.int (5 : Int32)), .val (.ref b51), .val (.int (0 : Int32)), .unset] [(.int (own_at q1 (0 : Int32))), (.int (0 : Int32))])) _
      refine XS.iadd X55.here hx rfl (hb hby at_36) rfl ?_
      show Steps p.tables e below (T55.setTop (mkF m 37 #[.val (.int p1), .val (.long q1), .second, .val (.int (5 : Int32)), .val (.ref b51), .val (.int (0 : Int32)), .unset] [(.int ((0 : Int32) + (own_at q1 (0 : Int32))))])) _
      refine XS.istore X55.here hx rfl (hb hby at_37) rfl (l' := #[.val (.int p1), .val (.long q1), .second, .val (.int (5 : Int32)), .val (.ref b51), .val (.int ((0 : Int32) + (own_at q1 (0 : Int32)))), .unset]) rfl ?_
      show Steps p.tables e below (T55.setTop (mkF m 39 #[.val (.int p1), .val (.long q1), .second, .val (.int (5 : Int32)), .val (.ref b51), .val (.int ((0 : Int32) + (own_at q1 (0 : Int32)))), .unset] [])) _
      refine XS.iloadN X55.here hx rfl (hb hby at_39) rfl ?_
      show Steps p.tables e below (T55.setTop (mkF m 40 #[.val (.int p1), .val (.long q1), .second, .val (.int (5 : Int32)), .val (.ref b51), .val (.int ((0 : Int32) + (own_at q1 (0 : Int32)))), .unset] [(.int (5 : Int32))])) _
      refine XS.iconst X55.here hx rfl (hb hby at_40) ?_
      show Steps p.tables e below (T55.setTop (mkF m 41 #[.val (.int p1), .val (.long q1), .second, .val (.int (5 : Int32)), .val (.ref b51), .val (.int ((0 : Int32) + (own_at q1 (0 : Int32)))), .unset] [(.int (1 : Int32)), (.int (5 : Int32))])) _
      refine XS.icmpNo X55.here hx rfl (hb hby at_41) rfl (tlt (by decide : (1 : Int32) < (5 : Int32))).2.2.2 ?_
      show Steps p.tables e below (T55.setTop (mkF m 44 #[.val (.int p1), .val (.long q1), .second, .val (.int (5 : Int32)), .val (.ref b51), .val (.int ((0 : Int32) + (own_at q1 (0 : Int32)))), .unset] [])) _
      refine XS.aload X55.here hx rfl (hb hby at_44) rfl rfl ?_
      show Steps p.tables e below (T55.setTop (mkF m 46 #[.val (.int p1), .val (.long q1), .second, .val (.int (5 : Int32)), .val (.ref b51), .val (.int ((0 : Int32) + (own_at q1 (0 : Int32)))), .unset] [(.ref b51)])) _
      refine XS.iconst X55.here hx rfl (hb hby at_46) ?_
      show Steps p.tables e below (T55.setTop (mkF m 47 #[.val (.int p1), .val (.long q1), .second, .val (.int (5 : Int32)), .val (.ref b51), .val (.int ((0 : Int32) + (own_at q1 (0 : Int32)))), .unset] [(.int (1 : Int32)), (.ref b51)])) _
      refine XS.lloadN X55.here hx rfl (hb hby at_47) rfl ?_
      show Steps p.tables e below (T55.setTop (mkF m 48 #[.val (.int p1), .val (.long q1), .second, .val (.int (5 : Int32)), .val (.ref b51), .val (.int ((0 : Int32) + (own_at q1 (0 : Int32)))), .unset] [(.long q1), (.int (1 : Int32)), (.ref b51)])) _
      refine XS.iconst X55.here hx rfl (hb hby at_48) ?_
      show Steps p.tables e below (T55.setTop (mkF m 49 #[.val (.int p1), .val (.long q1), .second, .val (.int (5 : Int32)), .val (.ref b51), .val (.int ((0 : Int32) + (own_at q1 (0 : Int32)))), .unset] [(.int (1 : Int32)), (.long q1), (.int (1 : Int32)), (.ref b51)])) _
      refine st56 _ ?_
      show Steps p.tables e below (T56.setTop (mkF m 52 #[.val (.int p1), .val (.long q1), .second, .val (.int (5 : Int32)), .val (.ref b51), .val (.int ((0 : Int32) + (own_at q1 (0 : Int32)))), .unset] [(.int (own_at q1 (1 : Int32))), (.int (1 : Int32)), (.ref b51)])) _
      refine st58 _ ?_
      show Steps p.tables e below (T58.setTop (mkF m 53 #[.val (.int p1), .val (.long q1), .second, .val (.int (5 : Int32)), .val (.ref b51), .val (.int ((0 : Int32) + (own_at q1 (0 : Int32)))), .unset] [])) _
      refine XS.iload X58.here hx rfl (hb hby at_53) rfl ?_
      show Steps p.tables e below (T58.setTop (mkF m 55 #[.val (.int p1), .val (.long q1), .second, .val (.int (5 : Int32)), .val (.ref b51), .val (.int ((0 : Int32) + (own_at q1 (0 : Int32)))), .unset] [(.int ((0 : Int32) + (own_at q1 (0 : Int32))))])) _
      refine XS.lloadN X58.here hx rfl (hb hby at_55) rfl ?_
      show Steps p.tables e below (T58.setTop (mkF m 56 #[.val (.int p1), .val (.long q1), .second, .val (.int (5 : Int32)), .val (.ref b51), .val (.int ((0 : Int32) + (own_at q1 (0 : Int32)))), .unset] [(.long q1), (.int ((0 : Int32) + (own_at q1 (0 : Int32))))])) _
      refine XS.iconst X58.here hx rfl (hb hby at_56) ?_
      show Steps p.tables e below (T58.setTop (mkF m 57 #[.val (.int p1), .val (.long q1), .second, .val (.int (5 : Int32)), .val (.ref b51), .val (.int ((0 : Int32) + (own_at q1 (0 : Int32)))), .unset] [(.int (1 : Int32)), (.long q1), (.int ((0 : Int32) + (own_at q1 (0 : Int32))))])) _
      refine st59 _ ?_
      show Steps p.tables e below (T59.setTop (mkF m 60 #[.val (.int p1), .val (.long q1), .second, .val (.int (5 : Int32)), .val (.ref b51), .val (.int ((0 : Int32) + (own_at q1 (0 : Int32)))), .unset] [(.int (own_at q1 (1 : Int32))), (.int ((0 : Int32) + (own_at q1 (0 : Int32))))])) _
      refine XS.iadd X59.here hx rfl (hb hby at_60) rfl ?_
      show Steps p.tables e below (T59.setTop (mkF m 61 #[.val (.int p1), .val (.long q1), .second, .val (.int (5 : Int32)), .val (.ref b51), .val (.int ((0 : Int32) + (own_at q1 (0 : Int32)))), .unset] [(.int (((0 : Int32) + (own_at q1 (0 : Int32))) + (own_at q1 (1 : Int32))))])) _
      refine XS.istore X59.here hx rfl (hb hby at_61) rfl (l' := #[.val (.int p1), .val (.long q1), .second, .val (.int (5 : Int32)), .val (.ref b51), .val (.int (((0 : Int32) + (own_at q1 (0 : Int32))) + (own_at q1 (1 : Int32)))), .unset]) rfl ?_
      show Steps p.tables e below (T59.setTop (mkF m 63 #[.val (.int p1), .val (.long q1), .second, .val (.int (5 : Int32)), .val (.ref b51), .val (.int (((0 : Int32) + (own_at q1 (0 : Int32))) + (own_at q1 (1 : Int32)))), .unset] [])) _
      refine XS.iloadN X59.here hx rfl (hb hby at_63) rfl ?_
      show Steps p.tables e below (T59.setTop (mkF m 64 #[.val (.int p1), .val (.long q1), .second, .val (.int (5 : Int32)), .val (.ref b51), .val (.int (((0 : Int32) + (own_at q1 (0 : Int32))) + (own_at q1 (1 : Int32)))), .unset] [(.int (5 : Int32))])) _
      refine XS.iconst X59.here hx rfl (hb hby at_64) ?_
      show Steps p.tables e below (T59.setTop (mkF m 65 #[.val (.int p1), .val (.long q1), .second, .val (.int (5 : Int32)), .val (.ref b51), .val (.int (((0 : Int32) + (own_at q1 (0 : Int32))) + (own_at q1 (1 : Int32)))), .unset] [(.int (2 : Int32)), (.int (5 : Int32))])) _
      refine XS.icmpNo X59.here hx rfl (hb hby at_65) rfl (tlt (by decide : (2 : Int32) < (5 : Int32))).2.2.2 ?_
      show Steps p.tables e below (T59.setTop (mkF m 68 #[.val (.int p1), .val (.long q1), .second, .val (.int (5 : Int32)), .val (.ref b51), .val (.int (((0 : Int32) + (own_at q1 (0 : Int32))) + (own_at q1 (1 : Int32)))), .unset] [])) _
      refine XS.aload X59.here hx rfl (hb hby at_68) rfl rfl ?_
      show Steps p.tables e below (T59.setTop (mkF m 70 #[.val (.int p1), .val (.long q1), .second, .val (.int (5 : Int32)), .val (.ref b51), .val (.int (((0 : Int32) + (own_at q1 (0 : Int32))) + (own_at q1 (1 : Int32)))), .unset] [(.ref b51)])) _
      refine XS.iconst X59.here hx rfl (hb hby at_70) ?_
      show Steps p.tables e below (T59.setTop (mkF m 71 #[.val (.int p1), .val (.long q1), .second, .val (.int (5 : Int32)), .val (.ref b51), .val (.int (((0 : Int32) + (own_at q1 (0 : Int32))) + (own_at q1 (1 : Int32)))), .unset] [(.int (2 : Int32)), (.ref b51)])) _
      refine XS.lloadN X59.here hx rfl (hb hby at_71) rfl ?_
      show Steps p.tables e below (T59.setTop (mkF m 72 #[.val (.int p1), .val (.long q1), .second, .val (.int (5 : Int32)), .val (.ref b51), .val (.int (((0 : Int32) + (own_at q1 (0 : Int32))) + (own_at q1 (1 : Int32)))), .unset] [(.long q1), (.int (2 : Int32)), (.ref b51)])) _
      refine XS.iconst X59.here hx rfl (hb hby at_72) ?_
      show Steps p.tables e below (T59.setTop (mkF m 73 #[.val (.int p1), .val (.long q1), .second, .val (.int (5 : Int32)), .val (.ref b51), .val (.int (((0 : Int32) + (own_at q1 (0 : Int32))) + (own_at q1 (1 : Int32)))), .unset] [(.int (2 : Int32)), (.long q1), (.int (2 : Int32)), (.ref b51)])) _
      refine st60 _ ?_
      show Steps p.tables e below (T60.setTop (mkF m 76 #[.val (.int p1), .val (.long q1), .second, .val (.int (5 : Int32)), .val (.ref b51), .val (.int (((0 : Int32) + (own_at q1 (0 : Int32))) + (own_at q1 (1 : Int32)))), .unset] [(.int (own_at q1 (2 : Int32))), (.int (2 : Int32)), (.ref b51)])) _
      refine st62 _ ?_
      show Steps p.tables e below (T62.setTop (mkF m 77 #[.val (.int p1), .val (.long q1), .second, .val (.int (5 : Int32)), .val (.ref b51), .val (.int (((0 : Int32) + (own_at q1 (0 : Int32))) + (own_at q1 (1 : Int32)))), .unset] [])) _
      refine XS.iload X62.here hx rfl (hb hby at_77) rfl ?_
      show Steps p.tables e below (T62.setTop (mkF m 79 #[.val (.int p1), .val (.long q1), .second, .val (.int (5 : Int32)), .val (.ref b51), .val (.int (((0 : Int32) + (own_at q1 (0 : Int32))) + (own_at q1 (1 : Int32)))), .unset] [(.int (((0 : Int32) + (own_at q1 (0 : Int32))) + (own_at q1 (1 : Int32))))])) _
      refine XS.lloadN X62.here hx rfl (hb hby at_79) rfl ?_
      show Steps p.tables e below (T62.setTop (mkF m 80 #[.val (.int p1), .val (.long q1), .second, .val (.int (5 : Int32)), .val (.ref b51), .val (.int (((0 : Int32) + (own_at q1 (0 : Int32))) + (own_at q1 (1 : Int32)))), .unset] [(.long q1), (.int (((0 : Int32) + (own_at q1 (0 : Int32))) + (own_at q1 (1 : Int32))))])) _
      refine XS.iconst X62.here hx rfl (hb hby at_80) ?_
      show Steps p.tables e below (T62.setTop (mkF m 81 #[.val (.int p1), .val (.long q1), .second, .val (.int (5 : Int32)), .val (.ref b51), .val (.int (((0 : Int32) + (own_at q1 (0 : Int32))) + (own_at q1 (1 : Int32)))), .unset] [(.int (2 : Int32)), (.long q1), (.int (((0 : Int32) + (own_at q1 (0 : Int32))) + (own_at q1 (1 : Int32))))])) _
      refine st63 _ ?_
      show Steps p.tables e below (T63.setTop (mkF m 84 #[.val (.int p1), .val (.long q1), .second, .val (.int (5 : Int32)), .val (.ref b51), .val (.int (((0 : Int32) + (own_at q1 (0 : Int32))) + (own_at q1 (1 : Int32)))), .unset] [(.int (own_at q1 (2 : Int32))), (.int (((0 : Int32) + (own_at q1 (0 : Int32))) + (own_at q1 (1 : Int32))))])) _
      refine XS.iadd X63.here hx rfl (hb hby at_84) rfl ?_
      show Steps p.tables e below (T63.setTop (mkF m 85 #[.val (.int p1), .val (.long q1), .second, .val (.int (5 : Int32)), .val (.ref b51), .val (.int (((0 : Int32) + (own_at q1 (0 : Int32))) + (own_at q1 (1 : Int32)))), .unset] [(.int ((((0 : Int32) + (own_at q1 (0 : Int32))) + (own_at q1 (1 : Int32))) + (own_at q1 (2 : Int32))))])) _
      refine XS.istore X63.here hx rfl (hb hby at_85) rfl (l' := #[.val (.int p1), .val (.long q1), .second, .val (.int (5 : Int32)), .val (.ref b51), .val (.int ((((0 : Int32) + (own_at q1 (0 : Int32))) + (own_at q1 (1 : Int32))) + (own_at q1 (2 : Int32)))), .unset]) rfl ?_
      show Steps p.tables e below (T63.setTop (mkF m 87 #[.val (.int p1), .val (.long q1), .second, .val (.int (5 : Int32)), .val (.ref b51), .val (.int ((((0 : Int32) + (own_at q1 (0 : Int32))) + (own_at q1 (1 : Int32))) + (own_at q1 (2 : Int32)))), .unset] [])) _
      refine XS.iloadN X63.here hx rfl (hb hby at_87) rfl ?_
      show Steps p.tables e below (T63.setTop (mkF m 88 #[.val (.int p1), .val (.long q1), .second, .val (.int (5 : Int32)), .val (.ref b51), .val (.int ((((0 : Int32) + (own_at q1 (0 : Int32))) + (own_at q1 (1 : Int32))) + (own_at q1 (2 : Int32)))), .unset] [(.int (5 : Int32))])) _
      refine XS.iconst X63.here hx rfl (hb hby at_88) ?_
      show Steps p.tables e below (T63.setTop (mkF m 89 #[.val (.int p1), .val (.long q1), .second, .val (.int (5 : Int32)), .val (.ref b51), .val (.int ((((0 : Int32) + (own_at q1 (0 : Int32))) + (own_at q1 (1 : Int32))) + (own_at q1 (2 : Int32)))), .unset] [(.int (3 : Int32)), (.int (5 : Int32))])) _
      refine XS.icmpNo X63.here hx rfl (hb hby at_89) rfl (tlt (by decide : (3 : Int32) < (5 : Int32))).2.2.2 ?_
      show Steps p.tables e below (T63.setTop (mkF m 92 #[.val (.int p1), .val (.long q1), .second, .val (.int (5 : Int32)), .val (.ref b51), .val (.int ((((0 : Int32) + (own_at q1 (0 : Int32))) + (own_at q1 (1 : Int32))) + (own_at q1 (2 : Int32)))), .unset] [])) _
      refine XS.aload X63.here hx rfl (hb hby at_92) rfl rfl ?_
      show Steps p.tables e below (T63.setTop (mkF m 94 #[.val (.int p1), .val (.long q1), .second, .val (.int (5 : Int32)), .val (.ref b51), .val (.int ((((0 : Int32) + (own_at q1 (0 : Int32))) + (own_at q1 (1 : Int32))) + (own_at q1 (2 : Int32)))), .unset] [(.ref b51)])) _
      refine XS.iconst X63.here hx rfl (hb hby at_94) ?_
      show Steps p.tables e below (T63.setTop (mkF m 95 #[.val (.int p1), .val (.long q1), .second, .val (.int (5 : Int32)), .val (.ref b51), .val (.int ((((0 : Int32) + (own_at q1 (0 : Int32))) + (own_at q1 (1 : Int32))) + (own_at q1 (2 : Int32)))), .unset] [(.int (3 : Int32)), (.ref b51)])) _
      refine XS.lloadN X63.here hx rfl (hb hby at_95) rfl ?_
      show Steps p.tables e below (T63.setTop (mkF m 96 #[.val (.int p1), .val (.long q1), .second, .val (.int (5 : Int32)), .val (.ref b51), .val (.int ((((0 : Int32) + (own_at q1 (0 : Int32))) + (own_at q1 (1 : Int32))) + (own_at q1 (2 : Int32)))), .unset] [(.long q1), (.int (3 : Int32)), (.ref b51)])) _
      refine XS.iconst X63.here hx rfl (hb hby at_96) ?_
      show Steps p.tables e below (T63.setTop (mkF m 97 #[.val (.int p1), .val (.long q1), .second, .val (.int (5 : Int32)), .val (.ref b51), .val (.int ((((0 : Int32) + (own_at q1 (0 : Int32))) + (own_at q1 (1 : Int32))) + (own_at q1 (2 : Int32)))), .unset] [(.int (3 : Int32)), (.long q1), (.int (3 : Int32)), (.ref b51)])) _
      refine st64 _ ?_
      show Steps p.tables e below (T64.setTop (mkF m 100 #[.val (.int p1), .val (.long q1), .second, .val (.int (5 : Int32)), .val (.ref b51), .val (.int ((((0 : Int32) + (own_at q1 (0 : Int32))) + (own_at q1 (1 : Int32))) + (own_at q1 (2 : Int32)))), .unset] [(.int (own_at q1 (3 : Int32))), (.int (3 : Int32)), (.ref b51)])) _
      refine st66 _ ?_
      show Steps p.tables e below (T66.setTop (mkF m 101 #[.val (.int p1), .val (.long q1), .second, .val (.int (5 : Int32)), .val (.ref b51), .val (.int ((((0 : Int32) + (own_at q1 (0 : Int32))) + (own_at q1 (1 : Int32))) + (own_at q1 (2 : Int32)))), .unset] [])) _
      refine XS.iload X66.here hx rfl (hb hby at_101) rfl ?_
      show Steps p.tables e below (T66.setTop (mkF m 103 #[.val (.int p1), .val (.long q1), .second, .val (.int (5 : Int32)), .val (.ref b51), .val (.int ((((0 : Int32) + (own_at q1 (0 : Int32))) + (own_at q1 (1 : Int32))) + (own_at q1 (2 : Int32)))), .unset] [(.int ((((0 : Int32) + (own_at q1 (0 : Int32))) + (own_at q1 (1 : Int32))) + (own_at q1 (2 : Int32))))])) _
      refine XS.lloadN X66.here hx rfl (hb hby at_103) rfl ?_
      show Steps p.tables e below (T66.setTop (mkF m 104 #[.val (.int p1), .val (.long q1), .second, .val (.int (5 : Int32)), .val (.ref b51), .val (.int ((((0 : Int32) + (own_at q1 (0 : Int32))) + (own_at q1 (1 : Int32))) + (own_at q1 (2 : Int32)))), .unset] [(.long q1), (.int ((((0 : Int32) + (own_at q1 (0 : Int32))) + (own_at q1 (1 : Int32))) + (own_at q1 (2 : Int32))))])) _
      refine XS.iconst X66.here hx rfl (hb hby at_104) ?_
      show Steps p.tables e below (T66.setTop (mkF m 105 #[.val (.int p1), .val (.long q1), .second, .val (.int (5 : Int32)), .val (.ref b51), .val (.int ((((0 : Int32) + (own_at q1 (0 : Int32))) + (own_at q1 (1 : Int32))) + (own_at q1 (2 : Int32)))), .unset] [(.int (3 : Int32)), (.long q1), (.int ((((0 : Int32) + (own_at q1 (0 : Int32))) + (own_at q1 (1 : Int32))) + (own_at q1 (2 : Int32))))])) _
      refine st67 _ ?_
      show Steps p.tables e below (T67.setTop (mkF m 108 #[.val (.int p1), .val (.long q1), .second, .val (.int (5 : Int32)), .val (.ref b51), .val (.int ((((0 : Int32) + (own_at q1 (0 : Int32))) + (own_at q1 (1 : Int32))) + (own_at q1 (2 : Int32)))), .unset] [(.int (own_at q1 (3 : Int32))), (.int ((((0 : Int32) + (own_at q1 (0 : Int32))) + (own_at q1 (1 : Int32))) + (own_at q1 (2 : Int32))))])) _
      refine XS.iadd X67.here hx rfl (hb hby at_108) rfl ?_
      show Steps p.tables e below (T67.setTop (mkF m 109 #[.val (.int p1), .val (.long q1), .second, .val (.int (5 : Int32)), .val (.ref b51), .val (.int ((((0 : Int32) + (own_at q1 (0 : Int32))) + (own_at q1 (1 : Int32))) + (own_at q1 (2 : Int32)))), .unset] [(.int (((((0 : Int32) + (own_at q1 (0 : Int32))) + (own_at q1 (1 : Int32))) + (own_at q1 (2 : Int32))) + (own_at q1 (3 : Int32))))])) _
      refine XS.istore X67.here hx rfl (hb hby at_109) rfl (l' := #[.val (.int p1), .val (.long q1), .second, .val (.int (5 : Int32)), .val (.ref b51), .val (.int (((((0 : Int32) + (own_at q1 (0 : Int32))) + (own_at q1 (1 : Int32))) + (own_at q1 (2 : Int32))) + (own_at q1 (3 : Int32)))), .unset]) rfl ?_
      show Steps p.tables e below (T67.setTop (mkF m 111 #[.val (.int p1), .val (.long q1), .second, .val (.int (5 : Int32)), .val (.ref b51), .val (.int (((((0 : Int32) + (own_at q1 (0 : Int32))) + (own_at q1 (1 : Int32))) + (own_at q1 (2 : Int32))) + (own_at q1 (3 : Int32)))), .unset] [])) _
      refine XS.iloadN X67.here hx rfl (hb hby at_111) rfl ?_
      show Steps p.tables e below (T67.setTop (mkF m 112 #[.val (.int p1), .val (.long q1), .second, .val (.int (5 : Int32)), .val (.ref b51), .val (.int (((((0 : Int32) + (own_at q1 (0 : Int32))) + (own_at q1 (1 : Int32))) + (own_at q1 (2 : Int32))) + (own_at q1 (3 : Int32)))), .unset] [(.int (5 : Int32))])) _
      refine XS.iconst X67.here hx rfl (hb hby at_112) ?_
      show Steps p.tables e below (T67.setTop (mkF m 113 #[.val (.int p1), .val (.long q1), .second, .val (.int (5 : Int32)), .val (.ref b51), .val (.int (((((0 : Int32) + (own_at q1 (0 : Int32))) + (own_at q1 (1 : Int32))) + (own_at q1 (2 : Int32))) + (own_at q1 (3 : Int32)))), .unset] [(.int (4 : Int32)), (.int (5 : Int32))])) _
      refine XS.icmpNo X67.here hx rfl (hb hby at_113) rfl (tlt (by decide : (4 : Int32) < (5 : Int32))).2.2.2 ?_
      show Steps p.tables e below (T67.setTop (mkF m 116 #[.val (.int p1), .val (.long q1), .second, .val (.int (5 : Int32)), .val (.ref b51), .val (.int (((((0 : Int32) + (own_at q1 (0 : Int32))) + (own_at q1 (1 : Int32))) + (own_at q1 (2 : Int32))) + (own_at q1 (3 : Int32)))), .unset] [])) _
      refine XS.aload X67.here hx rfl (hb hby at_116) rfl rfl ?_
      show Steps p.tables e below (T67.setTop (mkF m 118 #[.val (.int p1), .val (.long q1), .second, .val (.int (5 : Int32)), .val (.ref b51), .val (.int (((((0 : Int32) + (own_at q1 (0 : Int32))) + (own_at q1 (1 : Int32))) + (own_at q1 (2 : Int32))) + (own_at q1 (3 : Int32)))), .unset] [(.ref b51)])) _
      refine XS.iconst X67.here hx rfl (hb hby at_118) ?_
      show Steps p.tables e below (T67.setTop (mkF m 119 #[.val (.int p1), .val (.long q1), .second, .val (.int (5 : Int32)), .val (.ref b51), .val (.int (((((0 : Int32) + (own_at q1 (0 : Int32))) + (own_at q1 (1 : Int32))) + (own_at q1 (2 : Int32))) + (own_at q1 (3 : Int32)))), .unset] [(.int (4 : Int32)), (.ref b51)])) _
      refine XS.lloadN X67.here hx rfl (hb hby at_119) rfl ?_
      show Steps p.tables e below (T67.setTop (mkF m 120 #[.val (.int p1), .val (.long q1), .second, .val (.int (5 : Int32)), .val (.ref b51), .val (.int (((((0 : Int32) + (own_at q1 (0 : Int32))) + (own_at q1 (1 : Int32))) + (own_at q1 (2 : Int32))) + (own_at q1 (3 : Int32)))), .unset] [(.long q1), (.int (4 : Int32)), (.ref b51)])) _
      refine XS.iconst X67.here hx rfl (hb hby at_120) ?_
      show Steps p.tables e below (T67.setTop (mkF m 121 #[.val (.int p1), .val (.long q1), .second, .val (.int (5 : Int32)), .val (.ref b51), .val (.int (((((0 : Int32) + (own_at q1 (0 : Int32))) + (own_at q1 (1 : Int32))) + (own_at q1 (2 : Int32))) + (own_at q1 (3 : Int32)))), .unset] [(.int (4 : Int32)), (.long q1), (.int (4 : Int32)), (.ref b51)])) _
      refine st68 _ ?_
      show Steps p.tables e below (T68.setTop (mkF m 124 #[.val (.int p1), .val (.long q1), .second, .val (.int (5 : Int32)), .val (.ref b51), .val (.int (((((0 : Int32) + (own_at q1 (0 : Int32))) + (own_at q1 (1 : Int32))) + (own_at q1 (2 : Int32))) + (own_at q1 (3 : Int32)))), .unset] [(.int (own_at q1 (4 : Int32))), (.int (4 : Int32)), (.ref b51)])) _
      refine st70 _ ?_
      show Steps p.tables e below (T70.setTop (mkF m 125 #[.val (.int p1), .val (.long q1), .second, .val (.int (5 : Int32)), .val (.ref b51), .val (.int (((((0 : Int32) + (own_at q1 (0 : Int32))) + (own_at q1 (1 : Int32))) + (own_at q1 (2 : Int32))) + (own_at q1 (3 : Int32)))), .unset] [])) _
      refine XS.iload X70.here hx rfl (hb hby at_125) rfl ?_
      show Steps p.tables e below (T70.setTop (mkF m 127 #[.val (.int p1), .val (.long q1), .second, .val (.int (5 : Int32)), .val (.ref b51), .val (.int (((((0 : Int32) + (own_at q1 (0 : Int32))) + (own_at q1 (1 : Int32))) + (own_at q1 (2 : Int32))) + (own_at q1 (3 : Int32)))), .unset] [(.int (((((0 : Int32) + (own_at q1 (0 : Int32))) + (own_at q1 (1 : Int32))) + (own_at q1 (2 : Int32))) + (own_at q1 (3 : Int32))))])) _
      refine XS.lloadN X70.here hx rfl (hb hby at_127) rfl ?_
      show Steps p.tables e below (T70.setTop (mkF m 128 #[.val (.int p1), .val (.long q1), .second, .val (.int (5 : Int32)), .val (.ref b51), .val (.int (((((0 : Int32) + (own_at q1 (0 : Int32))) + (own_at q1 (1 : Int32))) + (own_at q1 (2 : Int32))) + (own_at q1 (3 : Int32)))), .unset] [(.long q1), (.int (((((0 : Int32) + (own_at q1 (0 : Int32))) + (own_at q1 (1 : Int32))) + (own_at q1 (2 : Int32))) + (own_at q1 (3 : Int32))))])) _
      refine XS.iconst X70.here hx rfl (hb hby at_128) ?_
      show Steps p.tables e below (T70.setTop (mkF m 129 #[.val (.int p1), .val (.long q1), .second, .val (.int (5 : Int32)), .val (.ref b51), .val (.int (((((0 : Int32) + (own_at q1 (0 : Int32))) + (own_at q1 (1 : Int32))) + (own_at q1 (2 : Int32))) + (own_at q1 (3 : Int32)))), .unset] [(.int (4 : Int32)), (.long q1), (.int (((((0 : Int32) + (own_at q1 (0 : Int32))) + (own_at q1 (1 : Int32))) + (own_at q1 (2 : Int32))) + (own_at q1 (3 : Int32))))])) _
      refine st71 _ ?_
      show Steps p.tables e below (T71.setTop (mkF m 132 #[.val (.int p1), .val (.long q1), .second, .val (.int (5 : Int32)), .val (.ref b51), .val (.int (((((0 : Int32) + (own_at q1 (0 : Int32))) + (own_at q1 (1 : Int32))) + (own_at q1 (2 : Int32))) + (own_at q1 (3 : Int32)))), .unset] [(.int (own_at q1 (4 : Int32))), (.int (((((0 : Int32) + (own_at q1 (0 : Int32))) + (own_at q1 (1 : Int32))) + (own_at q1 (2 : Int32))) + (own_at q1 (3 : Int32))))])) _
      refine XS.iadd X71.here hx rfl (hb hby at_132) rfl ?_
      show Steps p.tables e below (T71.setTop (mkF m 133 #[.val (.int p1), .val (.long q1), .second, .val (.int (5 : Int32)), .val (.ref b51), .val (.int (((((0 : Int32) + (own_at q1 (0 : Int32))) + (own_at q1 (1 : Int32))) + (own_at q1 (2 : Int32))) + (own_at q1 (3 : Int32)))), .unset] [(.int ((((((0 : Int32) + (own_at q1 (0 : Int32))) + (own_at q1 (1 : Int32))) + (own_at q1 (2 : Int32))) + (own_at q1 (3 : Int32))) + (own_at q1 (4 : Int32))))])) _
      refine XS.istore X71.here hx rfl (hb hby at_133) rfl (l' := #[.val (.int p1), .val (.long q1), .second, .val (.int (5 : Int32)), .val (.ref b51), .val (.int ((((((0 : Int32) + (own_at q1 (0 : Int32))) + (own_at q1 (1 : Int32))) + (own_at q1 (2 : Int32))) + (own_at q1 (3 : Int32))) + (own_at q1 (4 : Int32)))), .unset]) rfl ?_
      show Steps p.tables e below (T71.setTop (mkF m 135 #[.val (.int p1), .val (.long q1), .second, .val (.int (5 : Int32)), .val (.ref b51), .val (.int ((((((0 : Int32) + (own_at q1 (0 : Int32))) + (own_at q1 (1 : Int32))) + (own_at q1 (2 : Int32))) + (own_at q1 (3 : Int32))) + (own_at q1 (4 : Int32)))), .unset] [])) _
      refine XS.iloadN X71.here hx rfl (hb hby at_135) rfl ?_
      show Steps p.tables e below (T71.setTop (mkF m 136 #[.val (.int p1), .val (.long q1), .second, .val (.int (5 : Int32)), .val (.ref b51), .val (.int ((((((0 : Int32) + (own_at q1 (0 : Int32))) + (own_at q1 (1 : Int32))) + (own_at q1 (2 : Int32))) + (own_at q1 (3 : Int32))) + (own_at q1 (4 : Int32)))), .unset] [(.int (5 : Int32))])) _
      refine XS.iconst X71.here hx rfl (hb hby at_136) ?_
      show Steps p.tables e below (T71.setTop (mkF m 137 #[.val (.int p1), .val (.long q1), .second, .val (.int (5 : Int32)), .val (.ref b51), .val (.int ((((((0 : Int32) + (own_at q1 (0 : Int32))) + (own_at q1 (1 : Int32))) + (own_at q1 (2 : Int32))) + (own_at q1 (3 : Int32))) + (own_at q1 (4 : Int32)))), .unset] [(.int (5 : Int32)), (.int (5 : Int32))])) _
      refine XS.icmpYes X71.here hx rfl (pc0 := 137) (pc' := 159) rfl (hb hby at_137) rfl (flt (by decide : ¬ ((5 : Int32) < (5 : Int32)))).2.2.2 (by decide) (by decide) ?_
      show Steps p.tables e below (T71.setTop (mkF m 159 #[.val (.int p1), .val (.long q1), .second, .val (.int (5 : Int32)), .val (.ref b51), .val (.int ((((((0 : Int32) + (own_at q1 (0 : Int32))) + (own_at q1 (1 : Int32))) + (own_at q1 (2 : Int32))) + (own_at q1 (3 : Int32))) + (own_at q1 (4 : Int32)))), .unset] [])) _
      refine XS.iloadN X71.here hx rfl (hb hby at_159) rfl ?_
      show Steps p.tables e below (T71.setTop (mkF m 160 #[.val (.int p1), .val (.long q1), .second, .val (.int (5 : Int32)), .val (.ref b51), .val (.int ((((((0 : Int32) + (own_at q1 (0 : Int32))) + (own_at q1 (1 : Int32))) + (own_at q1 (2 : Int32))) + (own_at q1 (3 : Int32))) + (own_at q1 (4 : Int32)))), .unset] [(.int (5 : Int32))])) _
      refine XS.bipush X71.here hx rfl (hb hby at_160) ?_
      show Steps p.tables e below (T71.setTop (mkF m 162 #[.val (.int p1), .val (.long q1), .second, .val (.int (5 : Int32)), .val (.ref b51), .val (.int ((((((0 : Int32) + (own_at q1 (0 : Int32))) + (own_at q1 (1 : Int32))) + (own_at q1 (2 : Int32))) + (own_at q1 (3 : Int32))) + (own_at q1 (4 : Int32)))), .unset] [(.int (6 : Int32)), (.int (5 : Int32))])) _
      refine XS.icmpYes X71.here hx rfl (pc0 := 162) (pc' := 187) rfl (hb hby at_162) rfl (flt (by decide : ¬ ((6 : Int32) < (5 : Int32)))).2.2.2 (by decide) (by decide) ?_
      show Steps p.tables e below (T71.setTop (mkF m 187 #[.val (.int p1), .val (.long q1), .second, .val (.int (5 : Int32)), .val (.ref b51), .val (.int ((((((0 : Int32) + (own_at q1 (0 : Int32))) + (own_at q1 (1 : Int32))) + (own_at q1 (2 : Int32))) + (own_at q1 (3 : Int32))) + (own_at q1 (4 : Int32)))), .unset] [])) _
      refine XS.iloadN X71.here hx rfl (hb hby at_187) rfl ?_
      show Steps p.tables e below (T71.setTop (mkF m 188 #[.val (.int p1), .val (.long q1), .second, .val (.int (5 : Int32)), .val (.ref b51), .val (.int ((((((0 : Int32) + (own_at q1 (0 : Int32))) + (own_at q1 (1 : Int32))) + (own_at q1 (2 : Int32))) + (own_at q1 (3 : Int32))) + (own_at q1 (4 : Int32)))), .unset] [(.int (5 : Int32))])) _
      refine XS.bipush X71.here hx rfl (hb hby at_188) ?_
      show Steps p.tables e below (T71.setTop (mkF m 190 #[.val (.int p1), .val (.long q1), .second, .val (.int (5 : Int32)), .val (.ref b51), .val (.int ((((((0 : Int32) + (own_at q1 (0 : Int32))) + (own_at q1 (1 : Int32))) + (own_at q1 (2 : Int32))) + (own_at q1 (3 : Int32))) + (own_at q1 (4 : Int32)))), .unset] [(.int (7 : Int32)), (.int (5 : Int32))])) _
      refine XS.icmpYes X71.here hx rfl (pc0 := 190) (pc' := 215) rfl (hb hby at_190) rfl (flt (by decide : ¬ ((7 : Int32) < (5 : Int32)))).2.2.2 (by decide) (by decide) ?_
      show Steps p.tables e below (T71.setTop (mkF m 215 #[.val (.int p1), .val (.long q1), .second, .val (.int (5 : Int32)), .val (.ref b51), .val (.int ((((((0 : Int32) + (own_at q1 (0 : Int32))) + (own_at q1 (1 : Int32))) + (own_at q1 (2 : Int32))) + (own_at q1 (3 : Int32))) + (own_at q1 (4 : Int32)))), .unset] [])) _
      refine XS.aload X71.here hx rfl (hb hby at_215) rfl rfl ?_
      show Steps p.tables e below (T71.setTop (mkF m 217 #[.val (.int p1), .val (.long q1), .second, .val (.int (5 : Int32)), .val (.ref b51), .val (.int ((((((0 : Int32) + (own_at q1 (0 : Int32))) + (own_at q1 (1 : Int32))) + (own_at q1 (2 : Int32))) + (own_at q1 (3 : Int32))) + (own_at q1 (4 : Int32)))), .unset] [(.ref b51)])) _
      refine st72 _ ?_
      show Steps p.tables e below (T72.setTop (mkF m 220 #[.val (.int p1), .val (.long q1), .second, .val (.int (5 : Int32)), .val (.ref b51), .val (.int ((((((0 : Int32) + (own_at q1 (0 : Int32))) + (own_at q1 (1 : Int32))) + (own_at q1 (2 : Int32))) + (own_at q1 (3 : Int32))) + (own_at q1 (4 : Int32)))), .unset] [(.int (own_cs [(own_at q1 (0 : Int32)), (own_at q1 (1 : Int32)), (own_at q1 (2 : Int32)), (own_at q1 (3 : Int32)), (own_at q1 (4 : Int32))]))])) _
      refine XS.istore X72.here hx rfl (hb hby at_220) rfl (l' := #[.val (.int p1), .val (.long q1), .second, .val (.int (5 : Int32)), .val (.ref b51), .val (.int ((((((0 : Int32) + (own_at q1 (0 : Int32))) + (own_at q1 (1 : Int32))) + (own_at q1 (2 : Int32))) + (own_at q1 (3 : Int32))) + (own_at q1 (4 : Int32)))), .val (.int (own_cs [(own_at q1 (0 : Int32)), (own_at q1 (1 : Int32)), (own_at q1 (2 : Int32)), (own_at q1 (3 : Int32)), (own_at q1 (4 : Int32))]))]) rfl ?_
      show Steps p.tables e below (T72.setTop (mkF m 222 #[.val (.int p1), .val (.long q1), .second, .val (.int (5 : Int32)), .val (.ref b51), .val (.int ((((((0 : Int32) + (own_at q1 (0 : Int32))) + (own_at q1 (1 : Int32))) + (own_at q1 (2 : Int32))) + (own_at q1 (3 : Int32))) + (own_at q1 (4 : Int32)))), .val (.int (own_cs [(own_at q1 (0 : Int32)), (own_at q1 (1 : Int32)), (own_at q1 (2 : Int32)), (own_at q1 (3 : Int32)), (own_at q1 (4 : Int32))]))] [])) _
      refine XS.iload X72.here hx rfl (hb hby at_222) rfl ?_
      show Steps p.tables e below (T72.setTop (mkF m 224 #[.val (.int p1), .val (.long q1), .second, .val (.int (5 : Int32)), .val (.ref b51), .val (.int ((((((0 : Int32) + (own_at q1 (0 : Int32))) + (own_at q1 (1 : Int32))) + (own_at q1 (2 : Int32))) + (own_at q1 (3 : Int32))) + (own_at q1 (4 : Int32)))), .val (.int (own_cs [(own_at q1 (0 : Int32)), (own_at q1 (1 : Int32)), (own_at q1 (2 : Int32)), (own_at q1 (3 : Int32)), (own_at q1 (4 : Int32))]))] [(.int (own_cs [(own_at q1 (0 : Int32)), (own_at q1 (1 : Int32)), (own_at q1 (2 : Int32)), (own_at q1 (3 : Int32)), (own_at q1 (4 : Int32))]))])) _
      refine XS.iload X72.here hx rfl (hb hby at_224) rfl ?_
      show Steps p.tables e below (T72.setTop (mkF m 226 #[.val (.int p1), .val (.long q1), .second, .val (.int (5 : Int32)), .val (.ref b51), .val (.int ((((((0 : Int32) + (own_at q1 (0 : Int32))) + (own_at q1 (1 : Int32))) + (own_at q1 (2 : Int32))) + (own_at q1 (3 : Int32))) + (own_at q1 (4 : Int32)))), .val (.int (own_cs [(own_at q1 (0 : Int32)), (own_at q1 (1 : Int32)), (own_at q1 (2 : Int32)), (own_at q1 (3 : Int32)), (own_at q1 (4 : Int32))]))] [(.int ((((((0 : Int32) + (own_at q1 (0 : Int32))) + (own_at q1 (1 : Int32))) + (own_at q1 (2 : Int32))) + (own_at q1 (3 : Int32))) + (own_at q1 (4 : Int32)))), (.int (own_cs [(own_at q1 (0 : Int32)), (own_at q1 (1 : Int32)), (own_at q1 (2 : Int32)), (own_at q1 (3 : Int32)), (own_at q1 (4 : Int32))]))])) _
      refine XS.sipush X72.here hx rfl (hb hby at_226) ?_
      show Steps p.tables e below (T72.setTop (mkF m 229 #[.val (.int p1), .val (.long q1), .second, .val (.int (5 : Int32)), .val (.ref b51), .val (.int ((((((0 : Int32) + (own_at q1 (0 : Int32))) + (own_at q1 (1 : Int32))) + (own_at q1 (2 : Int32))) + (own_at q1 (3 : Int32))) + (own_at q1 (4 : Int32)))), .val (.int (own_cs [(own_at q1 (0 : Int32)), (own_at q1 (1 : Int32)), (own_at q1 (2 : Int32)), (own_at q1 (3 : Int32)), (own_at q1 (4 : Int32))]))] [(.int (255 : Int32)), (.int ((((((0 : Int32) + (own_at q1 (0 : Int32))) + (own_at q1 (1 : Int32))) + (own_at q1 (2 : Int32))) + (own_at q1 (3 : Int32))) + (own_at q1 (4 : Int32)))), (.int (own_cs [(own_at q1 (0 : Int32)), (own_at q1 (1 : Int32)), (own_at q1 (2 : Int32)), (own_at q1 (3 : Int32)), (own_at q1 (4 : Int32))]))])) _
      refine XS.iand X72.here hx rfl (hb hby at_229) rfl ?_
      show Steps p.tables e below (T72.setTop (mkF m 230 #[.val (.int p1), .val (.long q1), .second, .val (.int (5 : Int32)), .val (.ref b51), .val (.int ((((((0 : Int32) + (own_at q1 (0 : Int32))) + (own_at q1 (1 : Int32))) + (own_at q1 (2 : Int32))) + (own_at q1 (3 : Int32))) + (own_at q1 (4 : Int32)))), .val (.int (own_cs [(own_at q1 (0 : Int32)), (own_at q1 (1 : Int32)), (own_at q1 (2 : Int32)), (own_at q1 (3 : Int32)), (own_at q1 (4 : Int32))]))] [(.int (((((((0 : Int32) + (own_at q1 (0 : Int32))) + (own_at q1 (1 : Int32))) + (own_at q1 (2 : Int32))) + (own_at q1 (3 : Int32))) + (own_at q1 (4 : Int32))) &&& (255 : Int32))), (.int (own_cs [(own_at q1 (0 : Int32)), (own_at q1 (1 : Int32)), (own_at q1 (2 : Int32)), (own_at q1 (3 : Int32)), (own_at q1 (4 : Int32))]))])) _
      refine XS.icmpNo X72.here hx rfl (hb hby at_230) rfl (teq (own_key [(own_at q1 (0 : Int32)), (own_at q1 (1 : Int32)), (own_at q1 (2 : Int32)), (own_at q1 (3 : Int32)), (own_at q1 (4 : Int32))] : (own_cs [(own_at q1 (0 : Int32)), (own_at q1 (1 : Int32)), (own_at q1 (2 : Int32)), (own_at q1 (3 : Int32)), (own_at q1 (4 : Int32))]) = (((((((0 : Int32) + (own_at q1 (0 : Int32))) + (own_at q1 (1 : Int32))) + (own_at q1 (2 : Int32))) + (own_at q1 (3 : Int32))) + (own_at q1 (4 : Int32))) &&& (255 : Int32)))).2 ?_
      show Steps p.tables e below (T72.setTop (mkF m 233 #[.val (.int p1), .val (.long q1), .second, .val (.int (5 : Int32)), .val (.ref b51), .val (.int ((((((0 : Int32) + (own_at q1 (0 : Int32))) + (own_at q1 (1 : Int32))) + (own_at q1 (2 : Int32))) + (own_at q1 (3 : Int32))) + (own_at q1 (4 : Int32)))), .val (.int (own_cs [(own_at q1 (0 : Int32)), (own_at q1 (1 : Int32)), (own_at q1 (2 : Int32)), (own_at q1 (3 : Int32)), (own_at q1 (4 : Int32))]))] [])) _
      refine XS.iconst X72.here hx rfl (hb hby at_233) ?_
      show Steps p.tables e below (T72.setTop (mkF m 234 #[.val (.int p1), .val (.long q1), .second, .val (.int (5 : Int32)), .val (.ref b51), .val (.int ((((((0 : Int32) + (own_at q1 (0 : Int32))) + (own_at q1 (1 : Int32))) + (own_at q1 (2 : Int32))) + (own_at q1 (3 : Int32))) + (own_at q1 (4 : Int32)))), .val (.int (own_cs [(own_at q1 (0 : Int32)), (own_at q1 (1 : Int32)), (own_at q1 (2 : Int32)), (own_at q1 (3 : Int32)), (own_at q1 (4 : Int32))]))] [(.int (1 : Int32))])) _
      refine XS.goto X72.here hx rfl (pc0 := 234) (pc' := 238) rfl (hb hby at_234) (by decide) (by decide) ?_
      show Steps p.tables e below (T72.setTop (mkF m 238 #[.val (.int p1), .val (.long q1), .second, .val (.int (5 : Int32)), .val (.ref b51), .val (.int ((((((0 : Int32) + (own_at q1 (0 : Int32))) + (own_at q1 (1 : Int32))) + (own_at q1 (2 : Int32))) + (own_at q1 (3 : Int32))) + (own_at q1 (4 : Int32)))), .val (.int (own_cs [(own_at q1 (0 : Int32)), (own_at q1 (1 : Int32)), (own_at q1 (2 : Int32)), (own_at q1 (3 : Int32)), (own_at q1 (4 : Int32))]))] [(.int (1 : Int32))])) _
      exact retN X72 hx (t := .boolean) Bd.returns (by simp) (hb hby at_238) hr
    · show Qown_law Z p1 q1 h0 n0 _ T72.heap _
      rw [e72]
      exact ⟨rfl, N72⟩
  · obtain ⟨T73, h73, k73, X73, e73, E73, A73, st73⟩ := newP X0 hx hZ (hw _ (List.mem_of_getElem? (i := 1) rfl)) e0 (g := (mkF m 9 #[.val (.int p1), .val (.long q1), .second, .val (.int (6 : Int32)), .unset, .unset, .unset] [(.int (6 : Int32))])) rfl (hb hby at_9) rfl (by decide) (cap := 6) (by decide) (by decide) (by decide) (by decide)
    obtain ⟨b73, g73⟩ : ∃ z, z = h0.size := ⟨_, rfl⟩
    rw [← g73] at A73 st73
    have V73 : Arv Z h73 b73 k73 .byte (6 : Int32) [(.int (0 : Int32)), (.int (0 : Int32)), (.int (0 : Int32)), (.int (0 : Int32)), (.int (0 : Int32)), (.int (0 : Int32))] (.int (0 : Int32)) := (Arv.new A73 (by decide)).pad (pad_rep [] (.int (0 : Int32)) 6)
    have g_b73 : n0 ≤ b73 := Nat.le_trans Z0 (Nat.le_of_eq g73.symm)
    have sz_b73 : h0.size ≤ b73 := Nat.le_trans (Keep.refl h0 []).1 (Nat.le_of_eq g73.symm)
    have Z73 : n0 ≤ h73.size := Nat.le_trans Z0 E73.1
    have K73 : Keep h0 h73 [] := (Keep.refl h0 []).ext E73
    obtain ⟨_, _, ⟨T74, L74, k74, n74⟩, -, X74, ⟨Lc74, hQ74, l74, y74, z74⟩, st74⟩ := Jvm.LawKit.callS X73 hx (y := (⟨"com/example/assaybus/assaybus/link/FrameChecksumPinLaw", "at", "(JI)B"⟩ : MethodName)) hown (mvT hZ (hw _ (List.mem_of_getElem? (i := 6) rfl))) (mvT hZ (hw _ (List.mem_of_getElem? (i := 7) rfl))) (mvT hZ (hw _ (List.mem_of_getElem? (i := 8) rfl))) (mvT hZ (hw _ (List.mem_of_getElem? (i := 9) rfl))) (by decide) (backOf (W := 2) (own_mat l Z a0 hw [] q1 (0 : Int32)  h73 n0 Z73 ) hZ (hw _ (List.mem_of_getElem? (i := 9) rfl)) (hw _ (List.mem_of_getElem? (i := 8) rfl)) (by decide) (by decide)) (g := (mkF m 25 #[.val (.int p1), .val (.long q1), .second, .val (.int (6 : Int32)), .val (.ref b73), .val (.int (0 : Int32)), .unset] [(.int (0 : Int32)), (.long q1), (.int (0 : Int32)), (.ref b73)])) rfl (by rw [hml]; rfl) (argsL := [(.long q1), (.int (0 : Int32))]) (rest := [(.int (0 : Int32)), (.ref b73)]) (lenOf pd__JI_B rfl) rfl (by show 2 * 0 + _ ≤ _; exact Nat.le_of_eq rfl) (hb hby at_25) (fun _ _ => ⟨rfl, e73, (by decide : 1 + 0 ≤ _), (by decide : 6 + 0 ≤ _)⟩)
    dsimp only [Pt.U, Pt.locs, Pt.cells, Pt.slots] at X74 l74 y74 z74 st74 hQ74
    replace X74 := X74.more (Nat.le_of_eq (show k74 = 1 from y74)) (Nat.le_of_eq (show n74 = 6 from z74))
    obtain ⟨rfl, Nq74, e74⟩ := hQ74
    have N74 : Fr n0 L74 := by rw [l74]; exact Fr.app N0 Nq74
    obtain ⟨cl75, Ar75, qc75, S75, Nn75, H75, G75⟩ := id V73
    have hin75 : ¬ ((0 : Int32) < 0 ∨ cl75.slots.size ≤ ((0 : Int32)).toNatClampNeg) := inb_of S75 ⟨by decide, by decide⟩
    obtain ⟨T76, h76, X76, e76, W76, st76⟩ := stB X74 hx hZ e74 Ar75 (j := (0 : Int32)) hin75 (g := (mkF m 28 #[.val (.int p1), .val (.long q1), .second, .val (.int (6 : Int32)), .val (.ref b73), .val (.int (0 : Int32)), .unset] [(.int (own_at q1 (0 : Int32))), (.int (0 : Int32)), (.ref b73)])) rfl rfl (hb hby at_28)
    have V76 : Arv Z h76 b73 k73 .byte (6 : Int32) [(.int (nar .byte (own_at q1 (0 : Int32)))), (.int (0 : Int32)), (.int (0 : Int32)), (.int (0 : Int32)), (.int (0 : Int32)), (.int (0 : Int32))] (.int (0 : Int32)) := Arv.set Ar75 qc75 S75 Nn75 H75 G75 (fits_nar_byte _) W76 0 rfl (Nat.le_of_ble_eq_true rfl)
    have V76v : Arv Z h76 b73 k73 .byte (6 : Int32) [(.int (own_at q1 (0 : Int32))), (.int (0 : Int32)), (.int (0 : Int32)), (.int (0 : Int32)), (.int (0 : Int32)), (.int (0 : Int32))] (.int (0 : Int32)) := by have q := V76; rw [own_nara] at q; exact q
    have K76 : Keep h0 h76 [] := K73.wr W76 (Or.inr sz_b73)
    have N76 := Fr.snoc X76 N74 g_b73
    have Z76 : n0 ≤ h76.size := Nat.le_trans Z73 (Keep.of_wr W76).1
    obtain ⟨_, _, ⟨T77, L77, k77, n77⟩, -, X77, ⟨Lc77, hQ77, l77, y77, z77⟩, st77⟩ := Jvm.LawKit.callS X76 hx (y := (⟨"com/example/assaybus/assaybus/link/FrameChecksumPinLaw", "at", "(JI)B"⟩ : MethodName)) hown (mvT hZ (hw _ (List.mem_of_getElem? (i := 6) rfl))) (mvT hZ (hw _ (List.mem_of_getElem? (i := 7) rfl))) (mvT hZ (hw _ (List.mem_of_getElem? (i := 8) rfl))) (mvT hZ (hw _ (List.mem_of_getElem? (i := 9) rfl))) (by decide) (backOf (W := 1) (own_mat l Z a0 hw [] q1 (0 : Int32)  h76 n0 Z76 ) hZ (hw _ (List.mem_of_getElem? (i := 9) rfl)) (hw _ (List.mem_of_getElem? (i := 8) rfl)) (by decide) (by decide)) (g := (mkF m 33 #[.val (.int p1), .val (.long q1), .second, .val (.int (6 : Int32)), .val (.ref b73), .val (.int (0 : Int32)), .unset] [(.int (0 : Int32)), (.long q1), (.int (0 : Int32))])) rfl (by rw [hml]; rfl) (argsL := [(.long q1), (.int (0 : Int32))]) (rest := [(.int (0 : Int32))]) (lenOf pd__JI_B rfl) rfl (by show 2 * 0 + _ ≤ _; exact Nat.le_of_eq rfl) (hb hby at_33) (fun _ _ => ⟨rfl, e76, (by decide : 1 + 0 ≤ _), (by decide : 6 + 0 ≤ _)⟩)
    dsimp only [Pt.U, Pt.locs, Pt.cells, Pt.slots] at X77 l77 y77 z77 st77 hQ77
    replace X77 := X77.more (Nat.le_of_eq (show k77 = 1 from y77)) (Nat.le_of_eq (show n77 = 6 from z77))
    obtain ⟨rfl, Nq77, e77⟩ := hQ77
    have N77 : Fr n0 L77 := by rw [l77]; exact Fr.app N76 Nq77
    obtain ⟨_, _, ⟨T78, L78, k78, n78⟩, -, X78, ⟨Lc78, hQ78, l78, y78, z78⟩, st78⟩ := Jvm.LawKit.callS X77 hx (y := (⟨"com/example/assaybus/assaybus/link/FrameChecksumPinLaw", "at", "(JI)B"⟩ : MethodName)) hown (mvT hZ (hw _ (List.mem_of_getElem? (i := 6) rfl))) (mvT hZ (hw _ (List.mem_of_getElem? (i := 7) rfl))) (mvT hZ (hw _ (List.mem_of_getElem? (i := 8) rfl))) (mvT hZ (hw _ (List.mem_of_getElem? (i := 9) rfl))) (by decide) (backOf (W := 2) (own_mat l Z a0 hw [] q1 (1 : Int32)  h76 n0 Z76 ) hZ (hw _ (List.mem_of_getElem? (i := 9) rfl)) (hw _ (List.mem_of_getElem? (i := 8) rfl)) (by decide) (by decide)) (g := (mkF m 49 #[.val (.int p1), .val (.long q1), .second, .val (.int (6 : Int32)), .val (.ref b73), .val (.int ((0 : Int32) + (own_at q1 (0 : Int32)))), .unset] [(.int (1 : Int32)), (.long q1), (.int (1 : Int32)), (.ref b73)])) rfl (by rw [hml]; rfl) (argsL := [(.long q1), (.int (1 : Int32))]) (rest := [(.int (1 : Int32)), (.ref b73)]) (lenOf pd__JI_B rfl) rfl (by show 2 * 0 + _ ≤ _; exact Nat.le_of_eq rfl) (hb hby at_49) (fun _ _ => ⟨rfl, e77, (by decide : 1 + 0 ≤ _), (by decide : 6 + 0 ≤ _)⟩)
    dsimp only [Pt.U, Pt.locs, Pt.cells, Pt.slots] at X78 l78 y78 z78 st78 hQ78
    replace X78 := X78.more (Nat.le_of_eq (show k78 = 1 from y78)) (Nat.le_of_eq (show n78 = 6 from z78))
    obtain ⟨rfl, Nq78, e78⟩ := hQ78
    have N78 : Fr n0 L78 := by rw [l78]; exact Fr.app N77 Nq78
    obtain ⟨cl79, Ar79, qc79, S79, Nn79, H79, G79⟩ := id V76v
    have hin79 : ¬ ((1 : Int32) < 0 ∨ cl79.slots.size ≤ ((1 : Int32)).toNatClampNeg) := inb_of S79 ⟨by decide, by decide⟩
    obtain ⟨T80, h80, X80, e80, W80, st80⟩ := stB X78 hx hZ e78 Ar79 (j := (1 : Int32)) hin79 (g := (mkF m 52 #[.val (.int p1), .val (.long q1), .second, .val (.int (6 : Int32)), .val (.ref b73), .val (.int ((0 : Int32) + (own_at q1 (0 : Int32)))), .unset] [(.int (own_at q1 (1 : Int32))), (.int (1 : Int32)), (.ref b73)])) rfl rfl (hb hby at_52)
    have V80 : Arv Z h80 b73 k73 .byte (6 : Int32) [(.int (own_at q1 (0 : Int32))), (.int (nar .byte (own_at q1 (1 : Int32)))), (.int (0 : Int32)), (.int (0 : Int32)), (.int (0 : Int32)), (.int (0 : Int32))] (.int (0 : Int32)) := Arv.set Ar79 qc79 S79 Nn79 H79 G79 (fits_nar_byte _) W80 1 rfl (Nat.le_of_ble_eq_true rfl)
    have V80v : Arv Z h80 b73 k73 .byte (6 : Int32) [(.int (own_at q1 (0 : Int32))), (.int (own_at q1 (1 : Int32))), (.int (0 : Int32)), (.int (0 : Int32)), (.int (0 : Int32)), (.int (0 : Int32))] (.int (0 : Int32)) := by have q := V80; rw [own_nara] at q; exact q
    have K80 : Keep h0 h80 [] := K76.wr W80 (Or.inr sz_b73)
    have N80 := Fr.snoc X80 N78 g_b73
    have Z80 : n0 ≤ h80.size := Nat.le_trans Z76 (Keep.of_wr W80).1
    obtain ⟨_, _, ⟨T81, L81, k81, n81⟩, -, X81, ⟨Lc81, hQ81, l81, y81, z81⟩, st81⟩ := Jvm.LawKit.callS X80 hx (y := (⟨"com/example/assaybus/assaybus/link/FrameChecksumPinLaw", "at", "(JI)B"⟩ : MethodName)) hown (mvT hZ (hw _ (List.mem_of_getElem? (i := 6) rfl))) (mvT hZ (hw _ (List.mem_of_getElem? (i := 7) rfl))) (mvT hZ (hw _ (List.mem_of_getElem? (i := 8) rfl))) (mvT hZ (hw _ (List.mem_of_getElem? (i := 9) rfl))) (by decide) (backOf (W := 1) (own_mat l Z a0 hw [] q1 (1 : Int32)  h80 n0 Z80 ) hZ (hw _ (List.mem_of_getElem? (i := 9) rfl)) (hw _ (List.mem_of_getElem? (i := 8) rfl)) (by decide) (by decide)) (g := (mkF m 57 #[.val (.int p1), .val (.long q1), .second, .val (.int (6 : Int32)), .val (.ref b73), .val (.int ((0 : Int32) + (own_at q1 (0 : Int32)))), .unset] [(.int (1 : Int32)), (.long q1), (.int ((0 : Int32) + (own_at q1 (0 : Int32))))])) rfl (by rw [hml]; rfl) (argsL := [(.long q1), (.int (1 : Int32))]) (rest := [(.int ((0 : Int32) + (own_at q1 (0 : Int32))))]) (lenOf pd__JI_B rfl) rfl (by show 2 * 0 + _ ≤ _; exact Nat.le_of_eq rfl) (hb hby at_57) (fun _ _ => ⟨rfl, e80, (by decide : 1 + 0 ≤ _), (by decide : 6 + 0 ≤ _)⟩)
    dsimp only [Pt.U, Pt.locs, Pt.cells, Pt.slots] at X81 l81 y81 z81 st81 hQ81
    replace X81 := X81.more (Nat.le_of_eq (show k81 = 1 from y81)) (Nat.le_of_eq (show n81 = 6 from z81))
    obtain ⟨rfl, Nq81, e81⟩ := hQ81
    have N81 : Fr n0 L81 := by rw [l81]; exact Fr.app N80 Nq81
    obtain ⟨_, _, ⟨T82, L82, k82, n82⟩, -, X82, ⟨Lc82, hQ82, l82, y82, z82⟩, st82⟩ := Jvm.LawKit.callS X81 hx (y := (⟨"com/example/assaybus/assaybus/link/FrameChecksumPinLaw", "at", "(JI)B"⟩ : MethodName)) hown (mvT hZ (hw _ (List.mem_of_getElem? (i := 6) rfl))) (mvT hZ (hw _ (List.mem_of_getElem? (i := 7) rfl))) (mvT hZ (hw _ (List.mem_of_getElem? (i := 8) rfl))) (mvT hZ (hw _ (List.mem_of_getElem? (i := 9) rfl))) (by decide) (backOf (W := 2) (own_mat l Z a0 hw [] q1 (2 : Int32)  h80 n0 Z80 ) hZ (hw _ (List.mem_of_getElem? (i := 9) rfl)) (hw _ (List.mem_of_getElem? (i := 8) rfl)) (by decide) (by decide)) (g := (mkF m 73 #[.val (.int p1), .val (.long q1), .second, .val (.int (6 : Int32)), .val (.ref b73), .val (.int (((0 : Int32) + (own_at q1 (0 : Int32))) + (own_at q1 (1 : Int32)))), .unset] [(.int (2 : Int32)), (.long q1), (.int (2 : Int32)), (.ref b73)])) rfl (by rw [hml]; rfl) (argsL := [(.long q1), (.int (2 : Int32))]) (rest := [(.int (2 : Int32)), (.ref b73)]) (lenOf pd__JI_B rfl) rfl (by show 2 * 0 + _ ≤ _; exact Nat.le_of_eq rfl) (hb hby at_73) (fun _ _ => ⟨rfl, e81, (by decide : 1 + 0 ≤ _), (by decide : 6 + 0 ≤ _)⟩)
    dsimp only [Pt.U, Pt.locs, Pt.cells, Pt.slots] at X82 l82 y82 z82 st82 hQ82
    replace X82 := X82.more (Nat.le_of_eq (show k82 = 1 from y82)) (Nat.le_of_eq (show n82 = 6 from z82))
    obtain ⟨rfl, Nq82, e82⟩ := hQ82
    have N82 : Fr n0 L82 := by rw [l82]; exact Fr.app N81 Nq82
    obtain ⟨cl83, Ar83, qc83, S83, Nn83, H83, G83⟩ := id V80v
    have hin83 : ¬ ((2 : Int32) < 0 ∨ cl83.slots.size ≤ ((2 : Int32)).toNatClampNeg) := inb_of S83 ⟨by decide, by decide⟩
    obtain ⟨T84, h84, X84, e84, W84, st84⟩ := stB X82 hx hZ e82 Ar83 (j := (2 : Int32)) hin83 (g := (mkF m 76 #[.val (.int p1), .val (.long q1), .second, .val (.int (6 : Int32)), .val (.ref b73), .val (.int (((0 : Int32) + (own_at q1 (0 : Int32))) + (own_at q1 (1 : Int32)))), .unset] [(.int (own_at q1 (2 : Int32))), (.int (2 : Int32)), (.ref b73)])) rfl rfl (hb hby at_76)
    have V84 : Arv Z h84 b73 k73 .byte (6 : Int32) [(.int (own_at q1 (0 : Int32))), (.int (own_at q1 (1 : Int32))), (.int (nar .byte (own_at q1 (2 : Int32)))), (.int (0 : Int32)), (.int (0 : Int32)), (.int (0 : Int32))] (.int (0 : Int32)) := Arv.set Ar83 qc83 S83 Nn83 H83 G83 (fits_nar_byte _) W84 2 rfl (Nat.le_of_ble_eq_true rfl)
    have V84v : Arv Z h84 b73 k73 .byte (6 : Int32) [(.int (own_at q1 (0 : Int32))), (.int (own_at q1 (1 : Int32))), (.int (own_at q1 (2 : Int32))), (.int (0 : Int32)), (.int (0 : Int32)), (.int (0 : Int32))] (.int (0 : Int32)) := by have q := V84; rw [own_nara] at q; exact q
    have K84 : Keep h0 h84 [] := K80.wr W84 (Or.inr sz_b73)
    have N84 := Fr.snoc X84 N82 g_b73
    have Z84 : n0 ≤ h84.size := Nat.le_trans Z80 (Keep.of_wr W84).1
    obtain ⟨_, _, ⟨T85, L85, k85, n85⟩, -, X85, ⟨Lc85, hQ85, l85, y85, z85⟩, st85⟩ := Jvm.LawKit.callS X84 hx (y := (⟨"com/example/assaybus/assaybus/link/FrameChecksumPinLaw", "at", "(JI)B"⟩ : MethodName)) hown (mvT hZ (hw _ (List.mem_of_getElem? (i := 6) rfl))) (mvT hZ (hw _ (List.mem_of_getElem? (i := 7) rfl))) (mvT hZ (hw _ (List.mem_of_getElem? (i := 8) rfl))) (mvT hZ (hw _ (List.mem_of_getElem? (i := 9) rfl))) (by decide) (backOf (W := 1) (own_mat l Z a0 hw [] q1 (2 : Int32)  h84 n0 Z84 ) hZ (hw _ (List.mem_of_getElem? (i := 9) rfl)) (hw _ (List.mem_of_getElem? (i := 8) rfl)) (by decide) (by decide)) (g := (mkF m 81 #[.val (.int p1), .val (.long q1), .second, .val (.int (6 : Int32)), .val (.ref b73), .val (.int (((0 : Int32) + (own_at q1 (0 : Int32))) + (own_at q1 (1 : Int32)))), .unset] [(.int (2 : Int32)), (.long q1), (.int (((0 : Int32) + (own_at q1 (0 : Int32))) + (own_at q1 (1 : Int32))))])) rfl (by rw [hml]; rfl) (argsL := [(.long q1), (.int (2 : Int32))]) (rest := [(.int (((0 : Int32) + (own_at q1 (0 : Int32))) + (own_at q1 (1 : Int32))))]) (lenOf pd__JI_B rfl) rfl (by show 2 * 0 + _ ≤ _; exact Nat.le_of_eq rfl) (hb hby at_81) (fun _ _ => ⟨rfl, e84, (by decide : 1 + 0 ≤ _), (by decide : 6 + 0 ≤ _)⟩)
    dsimp only [Pt.U, Pt.locs, Pt.cells, Pt.slots] at X85 l85 y85 z85 st85 hQ85
    replace X85 := X85.more (Nat.le_of_eq (show k85 = 1 from y85)) (Nat.le_of_eq (show n85 = 6 from z85))
    obtain ⟨rfl, Nq85, e85⟩ := hQ85
    have N85 : Fr n0 L85 := by rw [l85]; exact Fr.app N84 Nq85
    obtain ⟨_, _, ⟨T86, L86, k86, n86⟩, -, X86, ⟨Lc86, hQ86, l86, y86, z86⟩, st86⟩ := Jvm.LawKit.callS X85 hx (y := (⟨"com/example/assaybus/assaybus/link/FrameChecksumPinLaw", "at", "(JI)B"⟩ : MethodName)) hown (mvT hZ (hw _ (List.mem_of_getElem? (i := 6) rfl))) (mvT hZ (hw _ (List.mem_of_getElem? (i := 7) rfl))) (mvT hZ (hw _ (List.mem_of_getElem? (i := 8) rfl))) (mvT hZ (hw _ (List.mem_of_getElem? (i := 9) rfl))) (by decide) (backOf (W := 2) (own_mat l Z a0 hw [] q1 (3 : Int32)  h84 n0 Z84 ) hZ (hw _ (List.mem_of_getElem? (i := 9) rfl)) (hw _ (List.mem_of_getElem? (i := 8) rfl)) (by decide) (by decide)) (g := (mkF m 97 #[.val (.int p1), .val (.long q1), .second, .val (.int (6 : Int32)), .val (.ref b73), .val (.int ((((0 : Int32) + (own_at q1 (0 : Int32))) + (own_at q1 (1 : Int32))) + (own_at q1 (2 : Int32)))), .unset] [(.int (3 : Int32)), (.long q1), (.int (3 : Int32)), (.ref b73)])) rfl (by rw [hml]; rfl) (argsL := [(.long q1), (.int (3 : Int32))]) (rest := [(.int (3 : Int32)), (.ref b73)]) (lenOf pd__JI_B rfl) rfl (by show 2 * 0 + _ ≤ _; exact Nat.le_of_eq rfl) (hb hby at_97) (fun _ _ => ⟨rfl, e85, (by decide : 1 + 0 ≤ _), (by decide : 6 + 0 ≤ _)⟩)
    dsimp only [Pt.U, Pt.locs, Pt.cells, Pt.slots] at X86 l86 y86 z86 st86 hQ86
    replace X86 := X86.more (Nat.le_of_eq (show k86 = 1 from y86)) (Nat.le_of_eq (show n86 = 6 from z86))
    obtain ⟨rfl, Nq86, e86⟩ := hQ86
    have N86 : Fr n0 L86 := by rw [l86]; exact Fr.app N85 Nq86
    obtain ⟨cl87, Ar87, qc87, S87, Nn87, H87, G87⟩ := id V84v
    have hin87 : ¬ ((3 : Int32) < 0 ∨ cl87.slots.size ≤ ((3 : Int32)).toNatClampNeg) := inb_of S87 ⟨by decide, by decide⟩
    obtain ⟨T88, h88, X88, e88, W88, st88⟩ := stB X86 hx hZ e86 Ar87 (j := (3 : Int32)) hin87 (g := (mkF m 100 #[.val (.int p1), .val (.long q1), .second, .val (.int (6 : Int32)), .val (.ref b73), .val (.int ((((0 : Int32) + (own_at q1 (0 : Int32))) + (own_at q1 (1 : Int32))) + (own_at q1 (2 : Int32)))), .unset] [(.int (own_at q1 (3 : Int32))), (.int (3 : Int32)), (.ref b73)])) rfl rfl (hb hby at_100)
    have V88 : Arv Z h88 b73 k73 .byte (6 : Int32) [(.int (own_at q1 (0 : Int32))), (.int (own_at q1 (1 : Int32))), (.int (own_at q1 (2 : Int32))), (.int (nar .byte (own_at q1 (3 : Int32)))), (.int (0 : Int32)), (.int (0 : Int32))] (.int (0 : Int32)) := Arv.set Ar87 qc87 S87 Nn87 H87 G87 (fits_nar_byte _) W88 3 rfl (Nat.le_of_ble_eq_true rfl)
    have V88v : Arv Z h88 b73 k73 .byte (6 : Int32) [(.int (own_at q1 (0 : Int32))), (.int (own_at q1 (1 : Int32))), (.int (own_at q1 (2 : Int32))), (.int (own_at q1 (3 : Int32))), (.int (0 : Int32)), (.int (0 : Int32))] (.int (0 : Int32)) := by have q := V88; rw [own_nara] at q; exact q
    have K88 : Keep h0 h88 [] := K84.wr W88 (Or.inr sz_b73)
    have N88 := Fr.snoc X88 N86 g_b73
    have Z88 : n0 ≤ h88.size := Nat.le_trans Z84 (Keep.of_wr W88).1
    obtain ⟨_, _, ⟨T89, L89, k89, n89⟩, -, X89, ⟨Lc89, hQ89, l89, y89, z89⟩, st89⟩ := Jvm.LawKit.callS X88 hx (y := (⟨"com/example/assaybus/assaybus/link/FrameChecksumPinLaw", "at", "(JI)B"⟩ : MethodName)) hown (mvT hZ (hw _ (List.mem_of_getElem? (i := 6) rfl))) (mvT hZ (hw _ (List.mem_of_getElem? (i := 7) rfl))) (mvT hZ (hw _ (List.mem_of_getElem? (i := 8) rfl))) (mvT hZ (hw _ (List.mem_of_getElem? (i := 9) rfl))) (by decide) (backOf (W := 1) (own_mat l Z a0 hw [] q1 (3 : Int32)  h88 n0 Z88 ) hZ (hw _ (List.mem_of_getElem? (i := 9) rfl)) (hw _ (List.mem_of_getElem? (i := 8) rfl)) (by decide) (by decide)) (g := (mkF m 105 #[.val (.int p1), .val (.long q1), .second, .val (.int (6 : Int32)), .val (.ref b73), .val (.int ((((0 : Int32) + (own_at q1 (0 : Int32))) + (own_at q1 (1 : Int32))) + (own_at q1 (2 : Int32)))), .unset] [(.int (3 : Int32)), (.long q1), (.int ((((0 : Int32) + (own_at q1 (0 : Int32))) + (own_at q1 (1 : Int32))) + (own_at q1 (2 : Int32))))])) rfl (by rw [hml]; rfl) (argsL := [(.long q1), (.int (3 : Int32))]) (rest := [(.int ((((0 : Int32) + (own_at q1 (0 : Int32))) + (own_at q1 (1 : Int32))) + (own_at q1 (2 : Int32))))]) (lenOf pd__JI_B rfl) rfl (by show 2 * 0 + _ ≤ _; exact Nat.le_of_eq rfl) (hb hby at_105) (fun _ _ => ⟨rfl, e88, (by decide : 1 + 0 ≤ _), (by decide : 6 + 0 ≤ _)⟩)
    dsimp only [Pt.U, Pt.locs, Pt.cells, Pt.slots] at X89 l89 y89 z89 st89 hQ89
    replace X89 := X89.more (Nat.le_of_eq (show k89 = 1 from y89)) (Nat.le_of_eq (show n89 = 6 from z89))
    obtain ⟨rfl, Nq89, e89⟩ := hQ89
    have N89 : Fr n0 L89 := by rw [l89]; exact Fr.app N88 Nq89
    obtain ⟨_, _, ⟨T90, L90, k90, n90⟩, -, X90, ⟨Lc90, hQ90, l90, y90, z90⟩, st90⟩ := Jvm.LawKit.callS X89 hx (y := (⟨"com/example/assaybus/assaybus/link/FrameChecksumPinLaw", "at", "(JI)B"⟩ : MethodName)) hown (mvT hZ (hw _ (List.mem_of_getElem? (i := 6) rfl))) (mvT hZ (hw _ (List.mem_of_getElem? (i := 7) rfl))) (mvT hZ (hw _ (List.mem_of_getElem? (i := 8) rfl))) (mvT hZ (hw _ (List.mem_of_getElem? (i := 9) rfl))) (by decide) (backOf (W := 2) (own_mat l Z a0 hw [] q1 (4 : Int32)  h88 n0 Z88 ) hZ (hw _ (List.mem_of_getElem? (i := 9) rfl)) (hw _ (List.mem_of_getElem? (i := 8) rfl)) (by decide) (by decide)) (g := (mkF m 121 #[.val (.int p1), .val (.long q1), .second, .val (.int (6 : Int32)), .val (.ref b73), .val (.int (((((0 : Int32) + (own_at q1 (0 : Int32))) + (own_at q1 (1 : Int32))) + (own_at q1 (2 : Int32))) + (own_at q1 (3 : Int32)))), .unset] [(.int (4 : Int32)), (.long q1), (.int (4 : Int32)), (.ref b73)])) rfl (by rw [hml]; rfl) (argsL := [(.long q1), (.int (4 : Int32))]) (rest := [(.int (4 : Int32)), (.ref b73)]) (lenOf pd__JI_B rfl) rfl (by show 2 * 0 + _ ≤ _; exact Nat.le_of_eq rfl) (hb hby at_121) (fun _ _ => ⟨rfl, e89, (by decide : 1 + 0 ≤ _), (by decide : 6 + 0 ≤ _)⟩)
    dsimp only [Pt.U, Pt.locs, Pt.cells, Pt.slots] at X90 l90 y90 z90 st90 hQ90
    replace X90 := X90.more (Nat.le_of_eq (show k90 = 1 from y90)) (Nat.le_of_eq (show n90 = 6 from z90))
    obtain ⟨rfl, Nq90, e90⟩ := hQ90
    have N90 : Fr n0 L90 := by rw [l90]; exact Fr.app N89 Nq90
    obtain ⟨cl91, Ar91, qc91, S91, Nn91, H91, G91⟩ := id V88v
    have hin91 : ¬ ((4 : Int32) < 0 ∨ cl91.slots.size ≤ ((4 : Int32)).toNatClampNeg) := inb_of S91 ⟨by decide, by decide⟩
    obtain ⟨T92, h92, X92, e92, W92, st92⟩ := stB X90 hx hZ e90 Ar91 (j := (4 : Int32)) hin91 (g := (mkF m 124 #[.val (.int p1), .val (.long q1), .second, .val (.int (6 : Int32)), .val (.ref b73), .val (.int (((((0 : Int32) + (own_at q1 (0 : Int32))) + (own_at q1 (1 : Int32))) + (own_at q1 (2 : Int32))) + (own_at q1 (3 : Int32)))), .unset] [(.int (own_at q1 (4 : Int32))), (.int (4 : Int32)), (.ref b73)])) rfl rfl (hb hby at_124)
    have V92 : Arv Z h92 b73 k73 .byte (6 : Int32) [(.int (own_at q1 (0 : Int32))), (.int (own_at q1 (1 : Int32))), (.int (own_at q1 (2 : Int32))), (.int (own_at q1 (3 : Int32))), (.int (nar .byte (own_at q1 (4 : Int32)))), (.int (0 : Int32))] (.int (0 : Int32)) := Arv.set Ar91 qc91 S91 Nn91 H91 G91 (fits_nar_byte _) W92 4 rfl (Nat.le_of_ble_eq_true rfl)
    have V92v : Arv Z h92 b73 k73 .byte (6 : Int32) [(.int (own_at q1 (0 : Int32))), (.int (own_at q1 (1 : Int32))), (.int (own_at q1 (2 : Int32))), (.int (own_at q1 (3 : Int32))), (.int (own_at q1 (4 : Int32))), (.int (0 : Int32))] (.int (0 : Int32)) := by have q := V92; rw [own_nara] at q; exact q
    have K92 : Keep h0 h92 [] := K88.wr W92 (Or.inr sz_b73)
    have N92 := Fr.snoc X92 N90 g_b73
    have Z92 : n0 ≤ h92.size := Nat.le_trans Z88 (Keep.of_wr W92).1
    obtain ⟨_, _, ⟨T93, L93, k93, n93⟩, -, X93, ⟨Lc93, hQ93, l93, y93, z93⟩, st93⟩ := Jvm.LawKit.callS X92 hx (y := (⟨"com/example/assaybus/assaybus/link/FrameChecksumPinLaw", "at", "(JI)B"⟩ : MethodName)) hown (mvT hZ (hw _ (List.mem_of_getElem? (i := 6) rfl))) (mvT hZ (hw _ (List.mem_of_getElem? (i := 7) rfl))) (mvT hZ (hw _ (List.mem_of_getElem? (i := 8) rfl))) (mvT hZ (hw _ (List.mem_of_getElem? (i := 9) rfl))) (by decide) (backOf (W := 1) (own_mat l Z a0 hw [] q1 (4 : Int32)  h92 n0 Z92 ) hZ (hw _ (List.mem_of_getElem? (i := 9) rfl)) (hw _ (List.mem_of_getElem? (i := 8) rfl)) (by decide) (by decide)) (g := (mkF m 129 #[.val (.int p1), .val (.long q1), .second, .val (.int (6 : Int32)), .val (.ref b73), .val (.int (((((0 : Int32) + (own_at q1 (0 : Int32))) + (own_at q1 (1 : Int32))) + (own_at q1 (2 : Int32))) + (own_at q1 (3 : Int32)))), .unset] [(.int (4 : Int32)), (.long q1), (.int (((((0 : Int32) + (own_at q1 (0 : Int32))) + (own_at q1 (1 : Int32))) + (own_at q1 (2 : Int32))) + (own_at q1 (3 : Int32))))])) rfl (by rw [hml]; rfl) (argsL := [(.long q1), (.int (4 : Int32))]) (rest := [(.int (((((0 : Int32) + (own_at q1 (0 : Int32))) + (own_at q1 (1 : Int32))) + (own_at q1 (2 : Int32))) + (own_at q1 (3 : Int32))))]) (lenOf pd__JI_B rfl) rfl (by show 2 * 0 + _ ≤ _; exact Nat.le_of_eq rfl) (hb hby at_129) (fun _ _ => ⟨rfl, e92, (by decide : 1 + 0 ≤ _), (by decide : 6 + 0 ≤ _)⟩)
    dsimp only [Pt.U, Pt.locs, Pt.cells, Pt.slots] at X93 l93 y93 z93 st93 hQ93
    replace X93 := X93.more (Nat.le_of_eq (show k93 = 1 from y93)) (Nat.le_of_eq (show n93 = 6 from z93))
    obtain ⟨rfl, Nq93, e93⟩ := hQ93
    have N93 : Fr n0 L93 := by rw [l93]; exact Fr.app N92 Nq93
    obtain ⟨_, _, ⟨T94, L94, k94, n94⟩, -, X94, ⟨Lc94, hQ94, l94, y94, z94⟩, st94⟩ := Jvm.LawKit.callS X93 hx (y := (⟨"com/example/assaybus/assaybus/link/FrameChecksumPinLaw", "at", "(JI)B"⟩ : MethodName)) hown (mvT hZ (hw _ (List.mem_of_getElem? (i := 6) rfl))) (mvT hZ (hw _ (List.mem_of_getElem? (i := 7) rfl))) (mvT hZ (hw _ (List.mem_of_getElem? (i := 8) rfl))) (mvT hZ (hw _ (List.mem_of_getElem? (i := 9) rfl))) (by decide) (backOf (W := 2) (own_mat l Z a0 hw [] q1 (5 : Int32)  h92 n0 Z92 ) hZ (hw _ (List.mem_of_getElem? (i := 9) rfl)) (hw _ (List.mem_of_getElem? (i := 8) rfl)) (by decide) (by decide)) (g := (mkF m 145 #[.val (.int p1), .val (.long q1), .second, .val (.int (6 : Int32)), .val (.ref b73), .val (.int ((((((0 : Int32) + (own_at q1 (0 : Int32))) + (own_at q1 (1 : Int32))) + (own_at q1 (2 : Int32))) + (own_at q1 (3 : Int32))) + (own_at q1 (4 : Int32)))), .unset] [(.int (5 : Int32)), (.long q1), (.int (5 : Int32)), (.ref b73)])) rfl (by rw [hml]; rfl) (argsL := [(.long q1), (.int (5 : Int32))]) (rest := [(.int (5 : Int32)), (.ref b73)]) (lenOf pd__JI_B rfl) rfl (by show 2 * 0 + _ ≤ _; exact Nat.le_of_eq rfl) (hb hby at_145) (fun _ _ => ⟨rfl, e93, (by decide : 1 + 0 ≤ _), (by decide : 6 + 0 ≤ _)⟩)
    dsimp only [Pt.U, Pt.locs, Pt.cells, Pt.slots] at X94 l94 y94 z94 st94 hQ94
    replace X94 := X94.more (Nat.le_of_eq (show k94 = 1 from y94)) (Nat.le_of_eq (show n94 = 6 from z94))
    obtain ⟨rfl, Nq94, e94⟩ := hQ94
    have N94 : Fr n0 L94 := by rw [l94]; exact Fr.app N93 Nq94
    obtain ⟨cl95, Ar95, qc95, S95, Nn95, H95, G95⟩ := id V92v
    have hin95 : ¬ ((5 : Int32) < 0 ∨ cl95.slots.size ≤ ((5 : Int32)).toNatClampNeg) := inb_of S95 ⟨by decide, by decide⟩
    obtain ⟨T96, h96, X96, e96, W96, st96⟩ := stB X94 hx hZ e94 Ar95 (j := (5 : Int32)) hin95 (g := (mkF m 148 #[.val (.int p1), .val (.long q1), .second, .val (.int (6 : Int32)), .val (.ref b73), .val (.int ((((((0 : Int32) + (own_at q1 (0 : Int32))) + (own_at q1 (1 : Int32))) + (own_at q1 (2 : Int32))) + (own_at q1 (3 : Int32))) + (own_at q1 (4 : Int32)))), .unset] [(.int (own_at q1 (5 : Int32))), (.int (5 : Int32)), (.ref b73)])) rfl rfl (hb hby at_148)
    have V96 : Arv Z h96 b73 k73 .byte (6 : Int32) [(.int (own_at q1 (0 : Int32))), (.int (own_at q1 (1 : Int32))), (.int (own_at q1 (2 : Int32))), (.int (own_at q1 (3 : Int32))), (.int (own_at q1 (4 : Int32))), (.int (nar .byte (own_at q1 (5 : Int32))))] (.int (0 : Int32)) := Arv.set Ar95 qc95 S95 Nn95 H95 G95 (fits_nar_byte _) W96 5 rfl (Nat.le_of_ble_eq_true rfl)
    have V96v : Arv Z h96 b73 k73 .byte (6 : Int32) [(.int (own_at q1 (0 : Int32))), (.int (own_at q1 (1 : Int32))), (.int (own_at q1 (2 : Int32))), (.int (own_at q1 (3 : Int32))), (.int (own_at q1 (4 : Int32))), (.int (own_at q1 (5 : Int32)))] (.int (0 : Int32)) := by have q := V96; rw [own_nara] at q; exact q
    have K96 : Keep h0 h96 [] := K92.wr W96 (Or.inr sz_b73)
    have N96 := Fr.snoc X96 N94 g_b73
    have Z96 : n0 ≤ h96.size := Nat.le_trans Z92 (Keep.of_wr W96).1
    obtain ⟨_, _, ⟨T97, L97, k97, n97⟩, -, X97, ⟨Lc97, hQ97, l97, y97, z97⟩, st97⟩ := Jvm.LawKit.callS X96 hx (y := (⟨"com/example/assaybus/assaybus/link/FrameChecksumPinLaw", "at", "(JI)B"⟩ : MethodName)) hown (mvT hZ (hw _ (List.mem_of_getElem? (i := 6) rfl))) (mvT hZ (hw _ (List.mem_of_getElem? (i := 7) rfl))) (mvT hZ (hw _ (List.mem_of_getElem? (i := 8) rfl))) (mvT hZ (hw _ (List.mem_of_getElem? (i := 9) rfl))) (by decide) (backOf (W := 1) (own_mat l Z a0 hw [] q1 (5 : Int32)  h96 n0 Z96 ) hZ (hw _ (List.mem_of_getElem? (i := 9) rfl)) (hw _ (List.mem_of_getElem? (i := 8) rfl)) (by decide) (by decide)) (g := (mkF m 153 #[.val (.int p1), .val (.long q1), .second, .val (.int (6 : Int32)), .val (.ref b73), .val (.int ((((((0 : Int32) + (own_at q1 (0 : Int32))) + (own_at q1 (1 : Int32))) + (own_at q1 (2 : Int32))) + (own_at q1 (3 : Int32))) + (own_at q1 (4 : Int32)))), .unset] [(.int (5 : Int32)), (.long q1), (.int ((((((0 : Int32) + (own_at q1 (0 : Int32))) + (own_at q1 (1 : Int32))) + (own_at q1 (2 : Int32))) + (own_at q1 (3 : Int32))) + (own_at q1 (4 : Int32))))])) rfl (by rw [hml]; rfl) (argsL := [(.long q1), (.int (5 : Int32))]) (rest := [(.int ((((((0 : Int32) + (own_at q1 (0 : Int32))) + (own_at q1 (1 : Int32))) + (own_at q1 (2 : Int32))) + (own_at q1 (3 : Int32))) + (own_at q1 (4 : Int32))))]) (lenOf pd__JI_B rfl) rfl (by show 2 * 0 + _ ≤ _; exact Nat.le_of_eq rfl) (hb hby at_153) (fun _ _ => ⟨rfl, e96, (by decide : 1 + 0 ≤ _), (by decide : 6 + 0 ≤ _)⟩)
    dsimp only [Pt.U, Pt.locs, Pt.cells, Pt.slots] at X97 l97 y97 z97 st97 hQ97
    replace X97 := X97.more (Nat.le_of_eq (show k97 = 1 from y97)) (Nat.le_of_eq (show n97 = 6 from z97))
    obtain ⟨rfl, Nq97, e97⟩ := hQ97
    have N97 : Fr n0 L97 := by rw [l97]; exact Fr.app N96 Nq97
    obtain ⟨_, _, ⟨T98, L98, k98, n98⟩, -, X98, ⟨Lc98, hQ98, l98, y98, z98⟩, st98⟩ := Jvm.LawKit.callS X97 hx (y := (⟨"com/example/assaybus/assaybus/link/Frame", "checksum", "([B)I"⟩ : MethodName)) hown (mvT hZ (hw _ (List.mem_of_getElem? (i := 2) rfl))) (mvT hZ (hw _ (List.mem_of_getElem? (i := 3) rfl))) (mvT hZ (hw _ (List.mem_of_getElem? (i := 4) rfl))) (mvT hZ (hw _ (List.mem_of_getElem? (i := 5) rfl))) (by decide) (backOf (W := 0) (own_sumof l Z a0 hw [] b73 k73 (6 : Int32) [(own_at q1 (0 : Int32)), (own_at q1 (1 : Int32)), (own_at q1 (2 : Int32)), (own_at q1 (3 : Int32)), (own_at q1 (4 : Int32)), (own_at q1 (5 : Int32))] h96 n0 Z96 V96v rfl) hZ (hw _ (List.mem_of_getElem? (i := 5) rfl)) (hw _ (List.mem_of_getElem? (i := 4) rfl)) (by decide) (by decide)) (g := (mkF m 217 #[.val (.int p1), .val (.long q1), .second, .val (.int (6 : Int32)), .val (.ref b73), .val (.int (((((((0 : Int32) + (own_at q1 (0 : Int32))) + (own_at q1 (1 : Int32))) + (own_at q1 (2 : Int32))) + (own_at q1 (3 : Int32))) + (own_at q1 (4 : Int32))) + (own_at q1 (5 : Int32)))), .unset] [(.ref b73)])) rfl (by rw [hml]; rfl) (argsL := [(.ref b73)]) (rest := []) (lenOf pd___B_I rfl) rfl (by show 2 * 0 + _ ≤ _; exact Nat.le_of_eq rfl) (hb hby at_217) (fun _ _ => ⟨rfl, e97, (by decide : 1 + 0 ≤ _), (by decide : 6 + 0 ≤ _)⟩)
    dsimp only [Pt.U, Pt.locs, Pt.cells, Pt.slots] at X98 l98 y98 z98 st98 hQ98
    replace X98 := X98.more (Nat.le_of_eq (show k98 = 1 from y98)) (Nat.le_of_eq (show n98 = 6 from z98))
    obtain ⟨rfl, Nq98, e98⟩ := hQ98
    have N98 : Fr n0 L98 := by rw [l98]; exact Fr.app N97 Nq98
    obtain ⟨fs, hr, hrun, hended, hW, hsame⟩ := X98.leave (v := some (.int (1 : Int32))) (fun h => by rw [Bd.returns] at h; cases h)
    refine ⟨_, _, pre0 _ ?_, hrun, hended, _, _, rfl, ?_, ⟨_, rfl⟩, hW, hsame.mono (by decide) (by decide)⟩
    · show Steps p.tables e below (s₁.setTop (mkF m 0 #[.val (.int p1), .val (.long q1), .second, .unset, .unset, .unset, .unset] [])) _
      refine XS.iloadN X0.here hx rfl (hb hby at_0) rfl ?_
      show Steps p.tables e below (s₁.setTop (mkF m 1 #[.val (.int p1), .val (.long q1), .second, .unset, .unset, .unset, .unset] [(.int p1)])) _
      refine X0.ldcInt hx hown (mvT hZ (hw _ (List.mem_of_getElem? (i := 0) rfl))) (g := (mkF m 1 #[.val (.int p1), .val (.long q1), .second, .unset, .unset, .unset, .unset] [(.int p1)])) rfl (hb hby at_1) _ ?_
      show Steps p.tables e below (s₁.setTop (mkF m 3 #[.val (.int p1), .val (.long q1), .second, .unset, .unset, .unset, .unset] [(.int (2147483647 : Int32)), (.int p1)])) _
      refine XS.iand X0.here hx rfl (hb hby at_3) rfl ?_
      show Steps p.tables e below (s₁.setTop (mkF m 4 #[.val (.int p1), .val (.long q1), .second, .unset, .unset, .unset, .unset] [(.int (p1 &&& (2147483647 : Int32)))])) _
      refine XS.bipush X0.here hx rfl (hb hby at_4) ?_
      show Steps p.tables e below (s₁.setTop (mkF m 6 #[.val (.int p1), .val (.long q1), .second, .unset, .unset, .unset, .unset] [(.int (9 : Int32)), (.int (p1 &&& (2147483647 : Int32)))])) _
      refine iremM X0 hx rfl (hb hby at_6) rfl (by decide) ?_
      show Steps p.tables e below (s₁.setTop (mkF m 7 #[.val (.int p1), .val (.long q1), .second, .unset, .unset, .unset, .unset] [(.int ((p1 &&& (2147483647 : Int32)) % (9 : Int32)))])) _
      rw [hl]
      show Steps p.tables e below (s₁.setTop (mkF m 7 #[.val (.int p1), .val (.long q1), .second, .unset, .unset, .unset, .unset] [(.int (6 : Int32))])) _
      refine XS.istoreN X0.here hx rfl (hb hby at_7) rfl (l' := #[.val (.int p1), .val (.long q1), .second, .val (.int (6 : Int32)), .unset, .unset, .unset]) rfl ?_
      show Steps p.tables e below (s₁.setTop (mkF m 8 #[.val (.int p1), .val (.long q1), .second, .val (.int (6 : Int32)), .unset, .unset, .unset] [])) _
      refine XS.iloadN X0.here hx rfl (hb hby at_8) rfl ?_
      show Steps p.tables e below (s₁.setTop (mkF m 9 #[.val (.int p1), .val (.long q1), .second, .val (.int (6 : Int32)), .unset, .unset, .unset] [(.int (6 : Int32))])) _
      refine st73 _ ?_
      show Steps p.tables e below (T73.setTop (mkF m 11 #[.val (.int p1), .val (.long q1), .second, .val (.int (6 : Int32)), .unset, .unset, .unset] [(.ref b73)])) _
      refine XS.astore X73.here hx rfl (hb hby at_11) rfl rfl (l' := #[.val (.int p1), .val (.long q1), .second, .val (.int (6 : Int32)), .val (.ref b73), .unset, .unset]) rfl ?_
      show Steps p.tables e below (T73.setTop (mkF m 13 #[.val (.int p1), .val (.long q1), .second, .val (.int (6 : Int32)), .val (.ref b73), .unset, .unset] [])) _
      refine XS.iconst X73.here hx rfl (hb hby at_13) ?_
      show Steps p.tables e below (T73.setTop (mkF m 14 #[.val (.int p1), .val (.long q1), .second, .val (.int (6 : Int32)), .val (.ref b73), .unset, .unset] [(.int (0 : Int32))])) _
      refine XS.istore X73.here hx rfl (hb hby at_14) rfl (l' := #[.val (.int p1), .val (.long q1), .second, .val (.int (6 : Int32)), .val (.ref b73), .val (.int (0 : Int32)), .unset]) rfl ?_
      show Steps p.tables e below (T73.setTop (mkF m 16 #[.val (.int p1), .val (.long q1), .second, .val (.int (6 : Int32)), .val (.ref b73), .val (.int (0 : Int32)), .unset] [])) _
      refine XS.iloadN X73.here hx rfl (hb hby at_16) rfl ?_
      show Steps p.tables e below (T73.setTop (mkF m 17 #[.val (.int p1), .val (.long q1), .second, .val (.int (6 : Int32)), .val (.ref b73), .val (.int (0 : Int32)), .unset] [(.int (6 : Int32))])) _
      refine XS.ifNo X73.here hx rfl (hb hby at_17) rfl ((if0 _ _).trans (tlt (by decide : (0 : Int32) < (6 : Int32))).2.2.2) ?_
      show Steps p.tables e below (T73.setTop (mkF m 20 #[.val (.int p1), .val (.long q1), .second, .val (.int (6 : Int32)), .val (.ref b73), .val (.int (0 : Int32)), .unset] [])) _
      refine XS.aload X73.here hx rfl (hb hby at_20) rfl rfl ?_
      show Steps p.tables e below (T73.setTop (mkF m 22 #[.val (.int p1), .val (.long q1), .second, .val (.int (6 : Int32)), .val (.ref b73), .val (.int (0 : Int32)), .unset] [(.ref b73)])) _
      refine XS.iconst X73.here hx rfl (hb hby at_22) ?_
      show Steps p.tables e below (T73.setTop (mkF m 23 #[.val (.int p1), .val (.long q1), .second, .val (.int (6 : Int32)), .val (.ref b73), .val (.int (0 : Int32)), .unset] [(.int (0 : Int32)), (.ref b73)])) _
      refine XS.lloadN X73.here hx rfl (hb hby at_23) rfl ?_
      show Steps p.tables e below (T73.setTop (mkF m 24 #[.val (.int p1), .val (.long q1), .second, .val (.int (6 : Int32)), .val (.ref b73), .val (.int (0 : Int32)), .unset] [(.long q1), (.int (0 : Int32)), (.ref b73)])) _
      refine XS.iconst X73.here hx rfl (hb hby at_24) ?_
      show Steps p.tables e below (T73.setTop (mkF m 25 #[.val (.int p1), .val (.long q1), .second, .val (.int (6 : Int32)), .val (.ref b73), .val (.int (0 : Int32)), .unset] [(.int (0 : Int32)), (.long q1), (.int (0 : Int32)), (.ref b73)])) _
      refine st74 _ ?_
      show Steps p.tables e below (T74.setTop (mkF m 28 #[.val (.int p1), .val (.long q1), .second, .val (.int (6 : Int32)), .val (.ref b73), .val (.int (0 : Int32)), .unset] [(.int (own_at q1 (0 : Int32))), (.int (0 : Int32)), (.ref b73)])) _
      refine st76 _ ?_
      show Steps p.tables e below (T76.setTop (mkF m 29 #[.val (.int p1), .val (.long q1), .second, .val (.int (6 : Int32)), .val (.ref b73), .val (.int (0 : Int32)), .unset] [])) _
      refine XS.iload X76.here hx rfl (hb hby at_29) rfl ?_
      show Steps p.tables e below (T76.setTop (mkF m 31 #[.val (.int p1), .val (.long q1), .second, .val (.int (6 : Int32)), .val (.ref b73), .val (.int (0 : Int32)), .unset] [(.int (0 : Int32))])) _
      refine XS.lloadN X76.here hx rfl (hb hby at_31) rfl ?_
      show Steps p.tables e below (T76.setTop (mkF m 32 #[.val (.int p1), .val (.long q1), .second, .val (.int (6 : Int32)), .val (.ref b73), .val (.int (0 : Int32)), .unset] [(.long q1), (.int (0 : Int32))])) _
      refine XS.iconst X76.here hx rfl (hb hby at_32) ?_
      show Steps p.tables e below (T76.setTop (mkF m 33 #[.val (.int p1), .val (.long q1), .second, .val (.int (6 : Int32)), .val (.ref b73), .val (.int (0 : Int32)), .unset] [(.int (0 : Int32)), (.long q1), (.int (0 : Int32))])) _
      refine st77 _ ?_
      show Steps p.tables e below (T77.setTop (mkF m 36 #[.val (.int p1), .val (.long q1), .second, .val (.int (6 : Int32)), .val (.ref b73), .val (.int (0 : Int32)), .unset] [(.int (own_at q1 (0 : Int32))), (.int (0 : Int32))])) _
      refine XS.iadd X77.here hx rfl (hb hby at_36) rfl ?_
      show Steps p.tables e below (T77.setTop (mkF m 37 #[.val (.int p1), .val (.long q1), .second, .val (.int (6 : Int32)), .val (.ref b73), .val (.int (0 : Int32)), .unset] [(.int ((0 : Int32) + (own_at q1 (0 : Int32))))])) _
      refine XS.istore X77.here hx rfl (hb hby at_37) rfl (l' := #[.val (.int p1), .val (.long q1), .second, .val (.int (6 : Int32)), .val (.ref b73), .val (.int ((0 : Int32) + (own_at q1 (0 : Int32)))), .unset]) rfl ?_
      show Steps p.tables e below (T77.setTop (mkF m 39 #[.val (.int p1), .val (.long q1), .second, .val (.int (6 : Int32)), .val (.ref b73), .val (.int ((0 : Int32) + (own_at q1 (0 : Int32)))), .unset] [])) _
      refine XS.iloadN X77.here hx rfl (hb hby at_39) rfl ?_
      show Steps p.tables e below (T77.setTop (mkF m 40 #[.val (.int p1), .val (.long q1), .second, .val (.int (6 : Int32)), .val (.ref b73), .val (.int ((0 : Int32) + (own_at q1 (0 : Int32)))), .unset] [(.int (6 : Int32))])) _
      refine XS.iconst X77.here hx rfl (hb hby at_40) ?_
      show Steps p.tables e below (T77.setTop (mkF m 41 #[.val (.int p1), .val (.long q1), .second, .val (.int (6 : Int32)), .val (.ref b73), .val (.int ((0 : Int32) + (own_at q1 (0 : Int32)))), .unset] [(.int (1 : Int32)), (.int (6 : Int32))])) _
      refine XS.icmpNo X77.here hx rfl (hb hby at_41) rfl (tlt (by decide : (1 : Int32) < (6 : Int32))).2.2.2 ?_
      show Steps p.tables e below (T77.setTop (mkF m 44 #[.val (.int p1), .val (.long q1), .second, .val (.int (6 : Int32)), .val (.ref b73), .val (.int ((0 : Int32) + (own_at q1 (0 : Int32)))), .unset] [])) _
      refine XS.aload X77.here hx rfl (hb hby at_44) rfl rfl ?_
      show Steps p.tables e below (T77.setTop (mkF m 46 #[.val (.int p1), .val (.long q1), .second, .val (.int (6 : Int32)), .val (.ref b73), .val (.int ((0 : Int32) + (own_at q1 (0 : Int32)))), .unset] [(.ref b73)])) _
      refine XS.iconst X77.here hx rfl (hb hby at_46) ?_
      show Steps p.tables e below (T77.setTop (mkF m 47 #[.val (.int p1), .val (.long q1), .second, .val (.int (6 : Int32)), .val (.ref b73), .val (.int ((0 : Int32) + (own_at q1 (0 : Int32)))), .unset] [(.int (1 : Int32)), (.ref b73)])) _
      refine XS.lloadN X77.here hx rfl (hb hby at_47) rfl ?_
      show Steps p.tables e below (T77.setTop (mkF m 48 #[.val (.int p1), .val (.long q1), .second, .val (.int (6 : Int32)), .val (.ref b73), .val (.int ((0 : Int32) + (own_at q1 (0 : Int32)))), .unset] [(.long q1), (.int (1 : Int32)), (.ref b73)])) _
      refine XS.iconst X77.here hx rfl (hb hby at_48) ?_
      show Steps p.tables e below (T77.setTop (mkF m 49 #[.val (.int p1), .val (.long q1), .second, .val (.int (6 : Int32)), .val (.ref b73), .val (.int ((0 : Int32) + (own_at q1 (0 : Int32)))), .unset] [(.int (1 : Int32)), (.long q1), (.int (1 : Int32)), (.ref b73)])) _
      refine st78 _ ?_
      show Steps p.tables e below (T78.setTop (mkF m 52 #[.val (.int p1), .val (.long q1), .second, .val (.int (6 : Int32)), .val (.ref b73), .val (.int ((0 : Int32) + (own_at q1 (0 : Int32)))), .unset] [(.int (own_at q1 (1 : Int32))), (.int (1 : Int32)), (.ref b73)])) _
      refine st80 _ ?_
      show Steps p.tables e below (T80.setTop (mkF m 53 #[.val (.int p1), .val (.long q1), .second, .val (.int (6 : Int32)), .val (.ref b73), .val (.int ((0 : Int32) + (own_at q1 (0 : Int32)))), .unset] [])) _
      refine XS.iload X80.here hx rfl (hb hby at_53) rfl ?_
      show Steps p.tables e below (T80.setTop (mkF m 55 #[.val (.int p1), .val (.long q1), .second, .val (.int (6 : Int32)), .val (.ref b73), .val (.int ((0 : Int32) + (own_at q1 (0 : Int32)))), .unset] [(.int ((0 : Int32) + (own_at q1 (0 : Int32))))])) _
      refine XS.lloadN X80.here hx rfl (hb hby at_55) rfl ?_
      show Steps p.tables e below (T80.setTop (mkF m 56 #[.val (.int p1), .val (.long q1), .second, .val (.int (6 : Int32)), .val (.ref b73), .val (.int ((0 : Int32) + (own_at q1 (0 : Int32)))), .unset] [(.long q1), (.int ((0 : Int32) + (own_at q1 (0 : Int32))))])) _
      refine XS.iconst X80.here hx rfl (hb hby at_56) ?_
      show Steps p.tables e below (T80.setTop (mkF m 57 #[.val (.int p1), .val (.long q1), .second, .val (.int (6 : Int32)), .val (.ref b73), .val (.int ((0 : Int32) + (own_at q1 (0 : Int32)))), .unset] [(.int (1 : Int32)), (.long q1), (.int ((0 : Int32) + (own_at q1 (0 : Int32))))])) _
      refine st81 _ ?_
      show Steps p.tables e below (T81.setTop (mkF m 60 #[.val (.int p1), .val (.long q1), .second, .val (.int (6 : Int32)), .val (.ref b73), .val (.int ((0 : Int32) + (own_at q1 (0 : Int32)))), .unset] [(.int (own_at q1 (1 : Int32))), (.int ((0 : Int32) + (own_at q1 (0 : Int32))))])) _
      refine XS.iadd X81.here hx rfl (hb hby at_60) rfl ?_
      show Steps p.tables e below (T81.setTop (mkF m 61 #[.val (.int p1), .val (.long q1), .second, .val (.int (6 : Int32)), .val (.ref b73), .val (.int ((0 : Int32) + (own_at q1 (0 : Int32)))), .unset] [(.int (((0 : Int32) + (own_at q1 (0 : Int32))) + (own_at q1 (1 : Int32))))])) _
      refine XS.istore X81.here hx rfl (hb hby at_61) rfl (l' := #[.val (.int p1), .val (.long q1), .second, .val (.int (6 : Int32)), .val (.ref b73), .val (.int (((0 : Int32) + (own_at q1 (0 : Int32))) + (own_at q1 (1 : Int32)))), .unset]) rfl ?_
      show Steps p.tables e below (T81.setTop (mkF m 63 #[.val (.int p1), .val (.long q1), .second, .val (.int (6 : Int32)), .val (.ref b73), .val (.int (((0 : Int32) + (own_at q1 (0 : Int32))) + (own_at q1 (1 : Int32)))), .unset] [])) _
      refine XS.iloadN X81.here hx rfl (hb hby at_63) rfl ?_
      show Steps p.tables e below (T81.setTop (mkF m 64 #[.val (.int p1), .val (.long q1), .second, .val (.int (6 : Int32)), .val (.ref b73), .val (.int (((0 : Int32) + (own_at q1 (0 : Int32))) + (own_at q1 (1 : Int32)))), .unset] [(.int (6 : Int32))])) _
      refine XS.iconst X81.here hx rfl (hb hby at_64) ?_
      show Steps p.tables e below (T81.setTop (mkF m 65 #[.val (.int p1), .val (.long q1), .second, .val (.int (6 : Int32)), .val (.ref b73), .val (.int (((0 : Int32) + (own_at q1 (0 : Int32))) + (own_at q1 (1 : Int32)))), .unset] [(.int (2 : Int32)), (.int (6 : Int32))])) _
      refine XS.icmpNo X81.here hx rfl (hb hby at_65) rfl (tlt (by decide : (2 : Int32) < (6 : Int32))).2.2.2 ?_
      show Steps p.tables e below (T81.setTop (mkF m 68 #[.val (.int p1), .val (.long q1), .second, .val (.int (6 : Int32)), .val (.ref b73), .val (.int (((0 : Int32) + (own_at q1 (0 : Int32))) + (own_at q1 (1 : Int32)))), .unset] [])) _
      refine XS.aload X81.here hx rfl (hb hby at_68) rfl rfl ?_
      show Steps p.tables e below (T81.setTop (mkF m 70 #[.val (.int p1), .val (.long q1), .second, .val (.int (6 : Int32)), .val (.ref b73), .val (.int (((0 : Int32) + (own_at q1 (0 : Int32))) + (own_at q1 (1 : Int32)))), .unset] [(.ref b73)])) _
      refine XS.iconst X81.here hx rfl (hb hby at_70) ?_
      show Steps p.tables e below (T81.setTop (mkF m 71 #[.val (.int p1), .val (.long q1), .second, .val (.int (6 : Int32)), .val (.ref b73), .val (.int (((0 : Int32) + (own_at q1 (0 : Int32))) + (own_at q1 (1 : Int32)))), .unset] [(.int (2 : Int32)), (.ref b73)])) _
      refine XS.lloadN X81.here hx rfl (hb hby at_71) rfl ?_
      show Steps p.tables e below (T81.setTop (mkF m 72 #[.val (.int p1), .val (.long q1), .second, .val (.int (6 : Int32)), .val (.ref b73), .val (.int (((0 : Int32) + (own_at q1 (0 : Int32))) + (own_at q1 (1 : Int32)))), .unset] [(.long q1), (.int (2 : Int32)), (.ref b73)])) _
      refine XS.iconst X81.here hx rfl (hb hby at_72) ?_
      show Steps p.tables e below (T81.setTop (mkF m 73 #[.val (.int p1), .val (.long q1), .second, .val (.int (6 : Int32)), .val (.ref b73), .val (.int (((0 : Int32) + (own_at q1 (0 : Int32))) + (own_at q1 (1 : Int32)))), .unset] [(.int (2 : Int32)), (.long q1), (.int (2 : Int32)), (.ref b73)])) _
      refine st82 _ ?_
      show Steps p.tables e below (T82.setTop (mkF m 76 #[.val (.int p1), .val (.long q1), .second, .val (.int (6 : Int32)), .val (.ref b73), .val (.int (((0 : Int32) + (own_at q1 (0 : Int32))) + (own_at q1 (1 : Int32)))), .unset] [(.int (own_at q1 (2 : Int32))), (.int (2 : Int32)), (.ref b73)])) _
      refine st84 _ ?_
      show Steps p.tables e below (T84.setTop (mkF m 77 #[.val (.int p1), .val (.long q1), .second, .val (.int (6 : Int32)), .val (.ref b73), .val (.int (((0 : Int32) + (own_at q1 (0 : Int32))) + (own_at q1 (1 : Int32)))), .unset] [])) _
      refine XS.iload X84.here hx rfl (hb hby at_77) rfl ?_
      show Steps p.tables e below (T84.setTop (mkF m 79 #[.val (.int p1), .val (.long q1), .second, .val (.int (6 : Int32)), .val (.ref b73), .val (.int (((0 : Int32) + (own_at q1 (0 : Int32))) + (own_at q1 (1 : Int32)))), .unset] [(.int (((0 : Int32) + (own_at q1 (0 : Int32))) + (own_at q1 (1 : Int32))))])) _
      refine XS.lloadN X84.here hx rfl (hb hby at_79) rfl ?_
      show Steps p.tables e below (T84.setTop (mkF m 80 #[.val (.int p1), .val (.long q1), .second, .val (.int (6 : Int32)), .val (.ref b73), .val (.int (((0 : Int32) + (own_at q1 (0 : Int32))) + (own_at q1 (1 : Int32)))), .unset] [(.long q1), (.int (((0 : Int32) + (own_at q1 (0 : Int32))) + (own_at q1 (1 : Int32))))])) _
      refine XS.iconst X84.here hx rfl (hb hby at_80) ?_
      show Steps p.tables e below (T84.setTop (mkF m 81 #[.val (.int p1), .val (.long q1), .second, .val (.int (6 : Int32)), .val (.ref b73), .val (.int (((0 : Int32) + (own_at q1 (0 : Int32))) + (own_at q1 (1 : Int32)))), .unset] [(.int (2 : Int32)), (.long q1), (.int (((0 : Int32) + (own_at q1 (0 : Int32))) + (own_at q1 (1 : Int32))))])) _
      refine st85 _ ?_
      show Steps p.tables e below (T85.setTop (mkF m 84 #[.val (.int p1), .val (.long q1), .second, .val (.int (6 : Int32)), .val (.ref b73), .val (.int (((0 : Int32) + (own_at q1 (0 : Int32))) + (own_at q1 (1 : Int32)))), .unset] [(.int (own_at q1 (2 : Int32))), (.int (((0 : Int32) + (own_at q1 (0 : Int32))) + (own_at q1 (1 : Int32))))])) _
      refine XS.iadd X85.here hx rfl (hb hby at_84) rfl ?_
      show Steps p.tables e below (T85.setTop (mkF m 85 #[.val (.int p1), .val (.long q1), .second, .val (.int (6 : Int32)), .val (.ref b73), .val (.int (((0 : Int32) + (own_at q1 (0 : Int32))) + (own_at q1 (1 : Int32)))), .unset] [(.int ((((0 : Int32) + (own_at q1 (0 : Int32))) + (own_at q1 (1 : Int32))) + (own_at q1 (2 : Int32))))])) _
      refine XS.istore X85.here hx rfl (hb hby at_85) rfl (l' := #[.val (.int p1), .val (.long q1), .second, .val (.int (6 : Int32)), .val (.ref b73), .val (.int ((((0 : Int32) + (own_at q1 (0 : Int32))) + (own_at q1 (1 : Int32))) + (own_at q1 (2 : Int32)))), .unset]) rfl ?_
      show Steps p.tables e below (T85.setTop (mkF m 87 #[.val (.int p1), .val (.long q1), .second, .val (.int (6 : Int32)), .val (.ref b73), .val (.int ((((0 : Int32) + (own_at q1 (0 : Int32))) + (own_at q1 (1 : Int32))) + (own_at q1 (2 : Int32)))), .unset] [])) _
      refine XS.iloadN X85.here hx rfl (hb hby at_87) rfl ?_
      show Steps p.tables e below (T85.setTop (mkF m 88 #[.val (.int p1), .val (.long q1), .second, .val (.int (6 : Int32)), .val (.ref b73), .val (.int ((((0 : Int32) + (own_at q1 (0 : Int32))) + (own_at q1 (1 : Int32))) + (own_at q1 (2 : Int32)))), .unset] [(.int (6 : Int32))])) _
      refine XS.iconst X85.here hx rfl (hb hby at_88) ?_
      show Steps p.tables e below (T85.setTop (mkF m 89 #[.val (.int p1), .val (.long q1), .second, .val (.int (6 : Int32)), .val (.ref b73), .val (.int ((((0 : Int32) + (own_at q1 (0 : Int32))) + (own_at q1 (1 : Int32))) + (own_at q1 (2 : Int32)))), .unset] [(.int (3 : Int32)), (.int (6 : Int32))])) _
      refine XS.icmpNo X85.here hx rfl (hb hby at_89) rfl (tlt (by decide : (3 : Int32) < (6 : Int32))).2.2.2 ?_
      show Steps p.tables e below (T85.setTop (mkF m 92 #[.val (.int p1), .val (.long q1), .second, .val (.int (6 : Int32)), .val (.ref b73), .val (.int ((((0 : Int32) + (own_at q1 (0 : Int32))) + (own_at q1 (1 : Int32))) + (own_at q1 (2 : Int32)))), .unset] [])) _
      refine XS.aload X85.here hx rfl (hb hby at_92) rfl rfl ?_
      show Steps p.tables e below (T85.setTop (mkF m 94 #[.val (.int p1), .val (.long q1), .second, .val (.int (6 : Int32)), .val (.ref b73), .val (.int ((((0 : Int32) + (own_at q1 (0 : Int32))) + (own_at q1 (1 : Int32))) + (own_at q1 (2 : Int32)))), .unset] [(.ref b73)])) _
      refine XS.iconst X85.here hx rfl (hb hby at_94) ?_
      show Steps p.tables e below (T85.setTop (mkF m 95 #[.val (.int p1), .val (.long q1), .second, .val (.int (6 : Int32)), .val (.ref b73), .val (.int ((((0 : Int32) + (own_at q1 (0 : Int32))) + (own_at q1 (1 : Int32))) + (own_at q1 (2 : Int32)))), .unset] [(.int (3 : Int32)), (.ref b73)])) _
      refine XS.lloadN X85.here hx rfl (hb hby at_95) rfl ?_
      show Steps p.tables e below (T85.setTop (mkF m 96 #[.val (.int p1), .val (.long q1), .second, .val (.int (6 : Int32)), .val (.ref b73), .val (.int ((((0 : Int32) + (own_at q1 (0 : Int32))) + (own_at q1 (1 : Int32))) + (own_at q1 (2 : Int32)))), .unset] [(.long q1), (.int (3 : Int32)), (.ref b73)])) _
      refine XS.iconst X85.here hx rfl (hb hby at_96) ?_
      show Steps p.tables e below (T85.setTop (mkF m 97 #[.val (.int p1), .val (.long q1), .second, .val (.int (6 : Int32)), .val (.ref b73), .val (.int ((((0 : Int32) + (own_at q1 (0 : Int32))) + (own_at q1 (1 : Int32))) + (own_at q1 (2 : Int32)))), .unset] [(.int (3 : Int32)), (.long q1), (.int (3 : Int32)), (.ref b73)])) _
      refine st86 _ ?_
      show Steps p.tables e below (T86.setTop (mkF m 100 #[.val (.int p1), .val (.long q1), .second, .val (.int (6 : Int32)), .val (.ref b73), .val (.int ((((0 : Int32) + (own_at q1 (0 : Int32))) + (own_at q1 (1 : Int32))) + (own_at q1 (2 : Int32)))), .unset] [(.int (own_at q1 (3 : Int32))), (.int (3 : Int32)), (.ref b73)])) _
      refine st88 _ ?_
      show Steps p.tables e below (T88.setTop (mkF m 101 #[.val (.int p1), .val (.long q1), .second, .val (.int (6 : Int32)), .val (.ref b73), .val (.int ((((0 : Int32) + (own_at q1 (0 : Int32))) + (own_at q1 (1 : Int32))) + (own_at q1 (2 : Int32)))), .unset] [])) _
      refine XS.iload X88.here hx rfl (hb hby at_101) rfl ?_
      show Steps p.tables e below (T88.setTop (mkF m 103 #[.val (.int p1), .val (.long q1), .second, .val (.int (6 : Int32)), .val (.ref b73), .val (.int ((((0 : Int32) + (own_at q1 (0 : Int32))) + (own_at q1 (1 : Int32))) + (own_at q1 (2 : Int32)))), .unset] [(.int ((((0 : Int32) + (own_at q1 (0 : Int32))) + (own_at q1 (1 : Int32))) + (own_at q1 (2 : Int32))))])) _
      refine XS.lloadN X88.here hx rfl (hb hby at_103) rfl ?_
      show Steps p.tables e below (T88.setTop (mkF m 104 #[.val (.int p1), .val (.long q1), .second, .val (.int (6 : Int32)), .val (.ref b73), .val (.int ((((0 : Int32) + (own_at q1 (0 : Int32))) + (own_at q1 (1 : Int32))) + (own_at q1 (2 : Int32)))), .unset] [(.long q1), (.int ((((0 : Int32) + (own_at q1 (0 : Int32))) + (own_at q1 (1 : Int32))) + (own_at q1 (2 : Int32))))])) _
      refine XS.iconst X88.here hx rfl (hb hby at_104) ?_
      show Steps p.tables e below (T88.setTop (mkF m 105 #[.val (.int p1), .val (.long q1), .second, .val (.int (6 : Int32)), .val (.ref b73), .val (.int ((((0 : Int32) + (own_at q1 (0 : Int32))) + (own_at q1 (1 : Int32))) + (own_at q1 (2 : Int32)))), .unset] [(.int (3 : Int32)), (.long q1), (.int ((((0 : Int32) + (own_at q1 (0 : Int32))) + (own_at q1 (1 : Int32))) + (own_at q1 (2 : Int32))))])) _
      refine st89 _ ?_
      show Steps p.tables e below (T89.setTop (mkF m 108 #[.val (.int p1), .val (.long q1), .second, .val (.int (6 : Int32)), .val (.ref b73), .val (.int ((((0 : Int32) + (own_at q1 (0 : Int32))) + (own_at q1 (1 : Int32))) + (own_at q1 (2 : Int32)))), .unset] [(.int (own_at q1 (3 : Int32))), (.int ((((0 : Int32) + (own_at q1 (0 : Int32))) + (own_at q1 (1 : Int32))) + (own_at q1 (2 : Int32))))])) _
      refine XS.iadd X89.here hx rfl (hb hby at_108) rfl ?_
      show Steps p.tables e below (T89.setTop (mkF m 109 #[.val (.int p1), .val (.long q1), .second, .val (.int (6 : Int32)), .val (.ref b73), .val (.int ((((0 : Int32) + (own_at q1 (0 : Int32))) + (own_at q1 (1 : Int32))) + (own_at q1 (2 : Int32)))), .unset] [(.int (((((0 : Int32) + (own_at q1 (0 : Int32))) + (own_at q1 (1 : Int32))) + (own_at q1 (2 : Int32))) + (own_at q1 (3 : Int32))))])) _
      refine XS.istore X89.here hx rfl (hb hby at_109) rfl (l' := #[.val (.int p1), .val (.long q1), .second, .val (.int (6 : Int32)), .val (.ref b73), .val (.int (((((0 : Int32) + (own_at q1 (0 : Int32))) + (own_at q1 (1 : Int32))) + (own_at q1 (2 : Int32))) + (own_at q1 (3 : Int32)))), .unset]) rfl ?_
      show Steps p.tables e below (T89.setTop (mkF m 111 #[.val (.int p1), .val (.long q1), .second, .val (.int (6 : Int32)), .val (.ref b73), .val (.int (((((0 : Int32) + (own_at q1 (0 : Int32))) + (own_at q1 (1 : Int32))) + (own_at q1 (2 : Int32))) + (own_at q1 (3 : Int32)))), .unset] [])) _
      refine XS.iloadN X89.here hx rfl (hb hby at_111) rfl ?_
      show Steps p.tables e below (T89.setTop (mkF m 112 #[.val (.int p1), .val (.long q1), .second, .val (.int (6 : Int32)), .val (.ref b73), .val (.int (((((0 : Int32) + (own_at q1 (0 : Int32))) + (own_at q1 (1 : Int32))) + (own_at q1 (2 : Int32))) + (own_at q1 (3 : Int32)))), .unset] [(.int (6 : Int32))])) _
      refine XS.iconst X89.here hx rfl (hb hby at_112) ?_
      show Steps p.tables e below (T89.setTop (mkF m 113 #[.val (.int p1), .val (.long q1), .second, .val (.int (6 : Int32)), .val (.ref b73), .val (.int (((((0 : Int32) + (own_at q1 (0 : Int32))) + (own_at q1 (1 : Int32))) + (own_at q1 (2 : Int32))) + (own_at q1 (3 : Int32)))), .unset] [(.int (4 : Int32)), (.int (6 : Int32))])) _
      refine XS.icmpNo X89.here hx rfl (hb hby at_113) rfl (tlt (by decide : (4 : Int32) < (6 : Int32))).2.2.2 ?_
      show Steps p.tables e below (T89.setTop (mkF m 116 #[.val (.int p1), .val (.long q1), .second, .val (.int (6 : Int32)), .val (.ref b73), .val (.int (((((0 : Int32) + (own_at q1 (0 : Int32))) + (own_at q1 (1 : Int32))) + (own_at q1 (2 : Int32))) + (own_at q1 (3 : Int32)))), .unset] [])) _
      refine XS.aload X89.here hx rfl (hb hby at_116) rfl rfl ?_
      show Steps p.tables e below (T89.setTop (mkF m 118 #[.val (.int p1), .val (.long q1), .second, .val (.int (6 : Int32)), .val (.ref b73), .val (.int (((((0 : Int32) + (own_at q1 (0 : Int32))) + (own_at q1 (1 : Int32))) + (own_at q1 (2 : Int32))) + (own_at q1 (3 : Int32)))), .unset] [(.ref b73)])) _
      refine XS.iconst X89.here hx rfl (hb hby at_118) ?_
      show Steps p.tables e below (T89.setTop (mkF m 119 #[.val (.int p1), .val (.long q1), .second, .val (.int (6 : Int32)), .val (.ref b73), .val (.int (((((0 : Int32) + (own_at q1 (0 : Int32))) + (own_at q1 (1 : Int32))) + (own_at q1 (2 : Int32))) + (own_at q1 (3 : Int32)))), .unset] [(.int (4 : Int32)), (.ref b73)])) _
      refine XS.lloadN X89.here hx rfl (hb hby at_119) rfl ?_
      show Steps p.tables e below (T89.setTop (mkF m 120 #[.val (.int p1), .val (.long q1), .second, .val (.int (6 : Int32)), .val (.ref b73), .val (.int (((((0 : Int32) + (own_at q1 (0 : Int32))) + (own_at q1 (1 : Int32))) + (own_at q1 (2 : Int32))) + (own_at q1 (3 : Int32)))), .unset] [(.long q1), (.int (4 : Int32)), (.ref b73)])) _
      refine XS.iconst X89.here hx rfl (hb hby at_120) ?_
      show Steps p.tables e below (T89.setTop (mkF m 121 #[.val (.int p1), .val (.long q1), .second, .val (.int (6 : Int32)), .val (.ref b73), .val (.int (((((0 : Int32) + (own_at q1 (0 : Int32))) + (own_at q1 (1 : Int32))) + (own_at q1 (2 : Int32))) + (own_at q1 (3 : Int32)))), .unset] [(.int (4 : Int32)), (.long q1), (.int (4 : Int32)), (.ref b73)])) _
      refine st90 _ ?_
      show Steps p.tables e below (T90.setTop (mkF m 124 #[.val (.int p1), .val (.long q1), .second, .val (.int (6 : Int32)), .val (.ref b73), .val (.int (((((0 : Int32) + (own_at q1 (0 : Int32))) + (own_at q1 (1 : Int32))) + (own_at q1 (2 : Int32))) + (own_at q1 (3 : Int32)))), .unset] [(.int (own_at q1 (4 : Int32))), (.int (4 : Int32)), (.ref b73)])) _
      refine st92 _ ?_
      show Steps p.tables e below (T92.setTop (mkF m 125 #[.val (.int p1), .val (.long q1), .second, .val (.int (6 : Int32)), .val (.ref b73), .val (.int (((((0 : Int32) + (own_at q1 (0 : Int32))) + (own_at q1 (1 : Int32))) + (own_at q1 (2 : Int32))) + (own_at q1 (3 : Int32)))), .unset] [])) _
      refine XS.iload X92.here hx rfl (hb hby at_125) rfl ?_
      show Steps p.tables e below (T92.setTop (mkF m 127 #[.val (.int p1), .val (.long q1), .second, .val (.int (6 : Int32)), .val (.ref b73), .val (.int (((((0 : Int32) + (own_at q1 (0 : Int32))) + (own_at q1 (1 : Int32))) + (own_at q1 (2 : Int32))) + (own_at q1 (3 : Int32)))), .unset] [(.int (((((0 : Int32) + (own_at q1 (0 : Int32))) + (own_at q1 (1 : Int32))) + (own_at q1 (2 : Int32))) + (own_at q1 (3 : Int32))))])) _
      refine XS.lloadN X92.here hx rfl (hb hby at_127) rfl ?_
      show Steps p.tables e below (T92.setTop (mkF m 128 #[.val (.int p1), .val (.long q1), .second, .val (.int (6 : Int32)), .val (.ref b73), .val (.int (((((0 : Int32) + (own_at q1 (0 : Int32))) + (own_at q1 (1 : Int32))) + (own_at q1 (2 : Int32))) + (own_at q1 (3 : Int32)))), .unset] [(.long q1), (.int (((((0 : Int32) + (own_at q1 (0 : Int32))) + (own_at q1 (1 : Int32))) + (own_at q1 (2 : Int32))) + (own_at q1 (3 : Int32))))])) _
      refine XS.iconst X92.here hx rfl (hb hby at_128) ?_
      show Steps p.tables e below (T92.setTop (mkF m 129 #[.val (.int p1), .val (.long q1), .second, .val (.int (6 : Int32)), .val (.ref b73), .val (.int (((((0 : Int32) + (own_at q1 (0 : Int32))) + (own_at q1 (1 : Int32))) + (own_at q1 (2 : Int32))) + (own_at q1 (3 : Int32)))), .unset] [(.int (4 : Int32)), (.long q1), (.int (((((0 : Int32) + (own_at q1 (0 : Int32))) + (own_at q1 (1 : Int32))) + (own_at q1 (2 : Int32))) + (own_at q1 (3 : Int32))))])) _
      refine st93 _ ?_
      show Steps p.tables e below (T93.setTop (mkF m 132 #[.val (.int p1), .val (.long q1), .second, .val (.int (6 : Int32)), .val (.ref b73), .val (.int (((((0 : Int32) + (own_at q1 (0 : Int32))) + (own_at q1 (1 : Int32))) + (own_at q1 (2 : Int32))) + (own_at q1 (3 : Int32)))), .unset] [(.int (own_at q1 (4 : Int32))), (.int (((((0 : Int32) + (own_at q1 (0 : Int32))) + (own_at q1 (1 : Int32))) + (own_at q1 (2 : Int32))) + (own_at q1 (3 : Int32))))])) _
      refine XS.iadd X93.here hx rfl (hb hby at_132) rfl ?_
      show Steps p.tables e below (T93.setTop (mkF m 133 #[.val (.int p1), .val (.long q1), .second, .val (.int (6 : Int32)), .val (.ref b73), .val (.int (((((0 : Int32) + (own_at q1 (0 : Int32))) + (own_at q1 (1 : Int32))) + (own_at q1 (2 : Int32))) + (own_at q1 (3 : Int32)))), .unset] [(.int ((((((0 : Int32) + (own_at q1 (0 : Int32))) + (own_at q1 (1 : Int32))) + (own_at q1 (2 : Int32))) + (own_at q1 (3 : Int32))) + (own_at q1 (4 : Int32))))])) _
      refine XS.istore X93.here hx rfl (hb hby at_133) rfl (l' := #[.val (.int p1), .val (.long q1), .second, .val (.int (6 : Int32)), .val (.ref b73), .val (.int ((((((0 : Int32) + (own_at q1 (0 : Int32))) + (own_at q1 (1 : Int32))) + (own_at q1 (2 : Int32))) + (own_at q1 (3 : Int32))) + (own_at q1 (4 : Int32)))), .unset]) rfl ?_
      show Steps p.tables e below (T93.setTop (mkF m 135 #[.val (.int p1), .val (.long q1), .second, .val (.int (6 : Int32)), .val (.ref b73), .val (.int ((((((0 : Int32) + (own_at q1 (0 : Int32))) + (own_at q1 (1 : Int32))) + (own_at q1 (2 : Int32))) + (own_at q1 (3 : Int32))) + (own_at q1 (4 : Int32)))), .unset] [])) _
      refine XS.iloadN X93.here hx rfl (hb hby at_135) rfl ?_
      show Steps p.tables e below (T93.setTop (mkF m 136 #[.val (.int p1), .val (.long q1), .second, .val (.int (6 : Int32)), .val (.ref b73), .val (.int ((((((0 : Int32) + (own_at q1 (0 : Int32))) + (own_at q1 (1 : Int32))) + (own_at q1 (2 : Int32))) + (own_at q1 (3 : Int32))) + (own_at q1 (4 : Int32)))), .unset] [(.int (6 : Int32))])) _
      refine XS.iconst X93.here hx rfl (hb hby at_136) ?_
      show Steps p.tables e below (T93.setTop (mkF m 137 #[.val (.int p1), .val (.long q1), .second, .val (.int (6 : Int32)), .val (.ref b73), .val (.int ((((((0 : Int32) + (own_at q1 (0 : Int32))) + (own_at q1 (1 : Int32))) + (own_at q1 (2 : Int32))) + (own_at q1 (3 : Int32))) + (own_at q1 (4 : Int32)))), .unset] [(.int (5 : Int32)), (.int (6 : Int32))])) _
      refine XS.icmpNo X93.here hx rfl (hb hby at_137) rfl (tlt (by decide : (5 : Int32) < (6 : Int32))).2.2.2 ?_
      show Steps p.tables e below (T93.setTop (mkF m 140 #[.val (.int p1), .val (.long q1), .second, .val (.int (6 : Int32)), .val (.ref b73), .val (.int ((((((0 : Int32) + (own_at q1 (0 : Int32))) + (own_at q1 (1 : Int32))) + (own_at q1 (2 : Int32))) + (own_at q1 (3 : Int32))) + (own_at q1 (4 : Int32)))), .unset] [])) _
      refine XS.aload X93.here hx rfl (hb hby at_140) rfl rfl ?_
      show Steps p.tables e below (T93.setTop (mkF m 142 #[.val (.int p1), .val (.long q1), .second, .val (.int (6 : Int32)), .val (.ref b73), .val (.int ((((((0 : Int32) + (own_at q1 (0 : Int32))) + (own_at q1 (1 : Int32))) + (own_at q1 (2 : Int32))) + (own_at q1 (3 : Int32))) + (own_at q1 (4 : Int32)))), .unset] [(.ref b73)])) _
      refine XS.iconst X93.here hx rfl (hb hby at_142) ?_
      show Steps p.tables e below (T93.setTop (mkF m 143 #[.val (.int p1), .val (.long q1), .second, .val (.int (6 : Int32)), .val (.ref b73), .val (.int ((((((0 : Int32) + (own_at q1 (0 : Int32))) + (own_at q1 (1 : Int32))) + (own_at q1 (2 : Int32))) + (own_at q1 (3 : Int32))) + (own_at q1 (4 : Int32)))), .unset] [(.int (5 : Int32)), (.ref b73)])) _
      refine XS.lloadN X93.here hx rfl (hb hby at_143) rfl ?_
      show Steps p.tables e below (T93.setTop (mkF m 144 #[.val (.int p1), .val (.long q1), .second, .val (.int (6 : Int32)), .val (.ref b73), .val (.int ((((((0 : Int32) + (own_at q1 (0 : Int32))) + (own_at q1 (1 : Int32))) + (own_at q1 (2 : Int32))) + (own_at q1 (3 : Int32))) + (own_at q1 (4 : Int32)))), .unset] [(.long q1), (.int (5 : Int32)), (.ref b73)])) _
      refine XS.iconst X93.here hx rfl (hb hby at_144) ?_
      show Steps p.tables e below (T93.setTop (mkF m 145 #[.val (.int p1), .val (.long q1), .second, .val (.int (6 : Int32)), .val (.ref b73), .val (.int ((((((0 : Int32) + (own_at q1 (0 : Int32))) + (own_at q1 (1 : Int32))) + (own_at q1 (2 : Int32))) + (own_at q1 (3 : Int32))) + (own_at q1 (4 : Int32)))), .unset] [(.int (5 : Int32)), (.long q1), (.int (5 : Int32)), (.ref b73)])) _
      refine st94 _ ?_
      show Steps p.tables e below (T94.setTop (mkF m 148 #[.val (.int p1), .val (.long q1), .second, .val (.int (6 : Int32)), .val (.ref b73), .val (.int ((((((0 : Int32) + (own_at q1 (0 : Int32))) + (own_at q1 (1 : Int32))) + (own_at q1 (2 : Int32))) + (own_at q1 (3 : Int32))) + (own_at q1 (4 : Int32)))), .unset] [(.int (own_at q1 (5 : Int32))), (.int (5 : Int32)), (.ref b73)])) _
      refine st96 _ ?_
      show Steps p.tables e below (T96.setTop (mkF m 149 #[.val (.int p1), .val (.long q1), .second, .val (.int (6 : Int32)), .val (.ref b73), .val (.int ((((((0 : Int32) + (own_at q1 (0 : Int32))) + (own_at q1 (1 : Int32))) + (own_at q1 (2 : Int32))) + (own_at q1 (3 : Int32))) + (own_at q1 (4 : Int32)))), .unset] [])) _
      refine XS.iload X96.here hx rfl (hb hby at_149) rfl ?_
      show Steps p.tables e below (T96.setTop (mkF m 151 #[.val (.int p1), .val (.long q1), .second, .val (.int (6 : Int32)), .val (.ref b73), .val (.int ((((((0 : Int32) + (own_at q1 (0 : Int32))) + (own_at q1 (1 : Int32))) + (own_at q1 (2 : Int32))) + (own_at q1 (3 : Int32))) + (own_at q1 (4 : Int32)))), .unset] [(.int ((((((0 : Int32) + (own_at q1 (0 : Int32))) + (own_at q1 (1 : Int32))) + (own_at q1 (2 : Int32))) + (own_at q1 (3 : Int32))) + (own_at q1 (4 : Int32))))])) _
      refine XS.lloadN X96.here hx rfl (hb hby at_151) rfl ?_
      show Steps p.tables e below (T96.setTop (mkF m 152 #[.val (.int p1), .val (.long q1), .second, .val (.int (6 : Int32)), .val (.ref b73), .val (.int ((((((0 : Int32) + (own_at q1 (0 : Int32))) + (own_at q1 (1 : Int32))) + (own_at q1 (2 : Int32))) + (own_at q1 (3 : Int32))) + (own_at q1 (4 : Int32)))), .unset] [(.long q1), (.int ((((((0 : Int32) + (own_at q1 (0 : Int32))) + (own_at q1 (1 : Int32))) + (own_at q1 (2 : Int32))) + (own_at q1 (3 : Int32))) + (own_at q1 (4 : Int32))))])) _
      refine XS.iconst X96.here hx rfl (hb hby at_152) ?_
      show Steps p.tables e below (T96.setTop (mkF m 153 #[.val (.int p1), .val (.long q1), .second, .val (.int (6 : Int32)), .val (.ref b73), .val (.int ((((((0 : Int32) + (own_at q1 (0 : Int32))) + (own_at q1 (1 : Int32))) + (own_at q1 (2 : Int32))) + (own_at q1 (3 : Int32))) + (own_at q1 (4 : Int32)))), .unset] [(.int (5 : Int32)), (.long q1), (.int ((((((0 : Int32) + (own_at q1 (0 : Int32))) + (own_at q1 (1 : Int32))) + (own_at q1 (2 : Int32))) + (own_at q1 (3 : Int32))) + (own_at q1 (4 : Int32))))])) _
      refine st97 _ ?_
      show Steps p.tables e below (T97.setTop (mkF m 156 #[.val (.int p1), .val (.long q1), .second, .val (.int (6 : Int32)), .val (.ref b73), .val (.int ((((((0 : Int32) + (own_at q1 (0 : Int32))) + (own_at q1 (1 : Int32))) + (own_at q1 (2 : Int32))) + (own_at q1 (3 : Int32))) + (own_at q1 (4 : Int32)))), .unset] [(.int (own_at q1 (5 : Int32))), (.int ((((((0 : Int32) + (own_at q1 (0 : Int32))) + (own_at q1 (1 : Int32))) + (own_at q1 (2 : Int32))) + (own_at q1 (3 : Int32))) + (own_at q1 (4 : Int32))))])) _
      refine XS.iadd X97.here hx rfl (hb hby at_156) rfl ?_
      show Steps p.tables e below (T97.setTop (mkF m 157 #[.val (.int p1), .val (.long q1), .second, .val (.int (6 : Int32)), .val (.ref b73), .val (.int ((((((0 : Int32) + (own_at q1 (0 : Int32))) + (own_at q1 (1 : Int32))) + (own_at q1 (2 : Int32))) + (own_at q1 (3 : Int32))) + (own_at q1 (4 : Int32)))), .unset] [(.int (((((((0 : Int32) + (own_at q1 (0 : Int32))) + (own_at q1 (1 : Int32))) + (own_at q1 (2 : Int32))) + (own_at q1 (3 : Int32))) + (own_at q1 (4 : Int32))) + (own_at q1 (5 : Int32))))])) _
      refine XS.istore X97.here hx rfl (hb hby at_157) rfl (l' := #[.val (.int p1), .val (.long q1), .second, .val (.int (6 : Int32)), .val (.ref b73), .val (.int (((((((0 : Int32) + (own_at q1 (0 : Int32))) + (own_at q1 (1 : Int32))) + (own_at q1 (2 : Int32))) + (own_at q1 (3 : Int32))) + (own_at q1 (4 : Int32))) + (own_at q1 (5 : Int32)))), .unset]) rfl ?_
      show Steps p.tables e below (T97.setTop (mkF m 159 #[.val (.int p1), .val (.long q1), .second, .val (.int (6 : Int32)), .val (.ref b73), .val (.int (((((((0 : Int32) + (own_at q1 (0 : Int32))) + (own_at q1 (1 : Int32))) + (own_at q1 (2 : Int32))) + (own_at q1 (3 : Int32))) + (own_at q1 (4 : Int32))) + (own_at q1 (5 : Int32)))), .unset] [])) _
      refine XS.iloadN X97.here hx rfl (hb hby at_159) rfl ?_
      show Steps p.tables e below (T97.setTop (mkF m 160 #[.val (.int p1), .val (.long q1), .second, .val (.int (6 : Int32)), .val (.ref b73), .val (.int (((((((0 : Int32) + (own_at q1 (0 : Int32))) + (own_at q1 (1 : Int32))) + (own_at q1 (2 : Int32))) + (own_at q1 (3 : Int32))) + (own_at q1 (4 : Int32))) + (own_at q1 (5 : Int32)))), .unset] [(.int (6 : Int32))])) _
      refine XS.bipush X97.here hx rfl (hb hby at_160) ?_
      show Steps p.tables e below (T97.setTop (mkF m 162 #[.val (.int p1), .val (.long q1), .second, .val (.int (6 : Int32)), .val (.ref b73), .val (.int (((((((0 : Int32) + (own_at q1 (0 : Int32))) + (own_at q1 (1 : Int32))) + (own_at q1 (2 : Int32))) + (own_at q1 (3 : Int32))) + (own_at q1 (4 : Int32))) + (own_at q1 (5 : Int32)))), .unset] [(.int (6 : Int32)), (.int (6 : Int32))])) _
      refine XS.icmpYes X97.here hx rfl (pc0 := 162) (pc' := 187) rfl (hb hby at_162) rfl (flt (by decide : ¬ ((6 : Int32) < (6 : Int32)))).2.2.2 (by decide) (by decide) ?_
      show Steps p.tables e below (T97.setTop (mkF m 187 #[.val (.int p1), .val (.long q1), .second, .val (.int (6 : Int32)), .val (.ref b73), .val (.int (((((((0 : Int32) + (own_at q1 (0 : Int32))) + (own_at q1 (1 : Int32))) + (own_at q1 (2 : Int32))) + (own_at q1 (3 : Int32))) + (own_at q1 (4 : Int32))) + (own_at q1 (5 : Int32)))), .unset] [])) _
      refine XS.iloadN X97.here hx rfl (hb hby at_187) rfl ?_
      show Steps p.tables e below (T97.setTop (mkF m 188 #[.val (.int p1), .val (.long q1), .second, .val (.int (6 : Int32)), .val (.ref b73), .val (.int (((((((0 : Int32) + (own_at q1 (0 : Int32))) + (own_at q1 (1 : Int32))) + (own_at q1 (2 : Int32))) + (own_at q1 (3 : Int32))) + (own_at q1 (4 : Int32))) + (own_at q1 (5 : Int32)))), .unset] [(.int (6 : Int32))])) _
      refine XS.bipush X97.here hx rfl (hb hby at_188) ?_
      show Steps p.tables e below (T97.setTop (mkF m 190 #[.val (.int p1), .val (.long q1), .second, .val (.int (6 : Int32)), .val (.ref b73), .val (.int (((((((0 : Int32) + (own_at q1 (0 : Int32))) + (own_at q1 (1 : Int32))) + (own_at q1 (2 : Int32))) + (own_at q1 (3 : Int32))) + (own_at q1 (4 : Int32))) + (own_at q1 (5 : Int32)))), .unset] [(.int (7 : Int32)), (.int (6 : Int32))])) _
      refine XS.icmpYes X97.here hx rfl (pc0 := 190) (pc' := 215) rfl (hb hby at_190) rfl (flt (by decide : ¬ ((7 : Int32) < (6 : Int32)))).2.2.2 (by decide) (by decide) ?_
      show Steps p.tables e below (T97.setTop (mkF m 215 #[.val (.int p1), .val (.long q1), .second, .val (.int (6 : Int32)), .val (.ref b73), .val (.int (((((((0 : Int32) + (own_at q1 (0 : Int32))) + (own_at q1 (1 : Int32))) + (own_at q1 (2 : Int32))) + (own_at q1 (3 : Int32))) + (own_at q1 (4 : Int32))) + (own_at q1 (5 : Int32)))), .unset] [])) _
      refine XS.aload X97.here hx rfl (hb hby at_215) rfl rfl ?_
      show Steps p.tables e below (T97.setTop (mkF m 217 #[.val (.int p1), .val (.long q1), .second, .val (.int (6 : Int32)), .val (.ref b73), .val (.int (((((((0 : Int32) + (own_at q1 (0 : Int32))) + (own_at q1 (1 : Int32))) + (own_at q1 (2 : Int32))) + (own_at q1 (3 : Int32))) + (own_at q1 (4 : Int32))) + (own_at q1 (5 : Int32)))), .unset] [(.ref b73)])) _
      refine st98 _ ?_
      show Steps p.tables e below (T98.setTop (mkF m 220 #[.val (.int p1), .val (.long q1), .second, .val (.int (6 : Int32)), .val (.ref b73), .val (.int (((((((0 : Int32) + (own_at q1 (0 : Int32))) + (own_at q1 (1 : Int32))) + (own_at q1 (2 : Int32))) + (own_at q1 (3 : Int32))) + (own_at q1 (4 : Int32))) + (own_at q1 (5 : Int32)))), .unset] [(.int (own_cs [(own_at q1 (0 : Int32)), (own_at q1 (1 : Int32)), (own_at q1 (2 : Int32)), (own_at q1 (3 : Int32)), (own_at q1 (4 : Int32)), (own_at q1 (5 : Int32))]))])) _
      refine XS.istore X98.here hx rfl (hb hby at_220) rfl (l' := #[.val (.int p1), .val (.long q1), .second, .val (.int (6 : Int32)), .val (.ref b73), .val (.int (((((((0 : Int32) + (own_at q1 (0 : Int32))) + (own_at q1 (1 : Int32))) + (own_at q1 (2 : Int32))) + (own_at q1 (3 : Int32))) + (own_at q1 (4 : Int32))) + (own_at q1 (5 : Int32)))), .val (.int (own_cs [(own_at q1 (0 : Int32)), (own_at q1 (1 : Int32)), (own_at q1 (2 : Int32)), (own_at q1 (3 : Int32)), (own_at q1 (4 : Int32)), (own_at q1 (5 : Int32))]))]) rfl ?_
      show Steps p.tables e below (T98.setTop (mkF m 222 #[.val (.int p1), .val (.long q1), .second, .val (.int (6 : Int32)), .val (.ref b73), .val (.int (((((((0 : Int32) + (own_at q1 (0 : Int32))) + (own_at q1 (1 : Int32))) + (own_at q1 (2 : Int32))) + (own_at q1 (3 : Int32))) + (own_at q1 (4 : Int32))) + (own_at q1 (5 : Int32)))), .val (.int (own_cs [(own_at q1 (0 : Int32)), (own_at q1 (1 : Int32)), (own_at q1 (2 : Int32)), (own_at q1 (3 : Int32)), (own_at q1 (4 : Int32)), (own_at q1 (5 : Int32))]))] [])) _
      refine XS.iload X98.here hx rfl (hb hby at_222) rfl ?_
      show Steps p.tables e below (T98.setTop (mkF m 224 #[.val (.int p1), .val (.long q1), .second, .val (.int (6 : Int32)), .val (.ref b73), .val (.int (((((((0 : Int32) + (own_at q1 (0 : Int32))) + (own_at q1 (1 : Int32))) + (own_at q1 (2 : Int32))) + (own_at q1 (3 : Int32))) + (own_at q1 (4 : Int32))) + (own_at q1 (5 : Int32)))), .val (.int (own_cs [(own_at q1 (0 : Int32)), (own_at q1 (1 : Int32)), (own_at q1 (2 : Int32)), (own_at q1 (3 : Int32)), (own_at q1 (4 : Int32)), (own_at q1 (5 : Int32))]))] [(.int (own_cs [(own_at q1 (0 : Int32)), (own_at q1 (1 : Int32)), (own_at q1 (2 : Int32)), (own_at q1 (3 : Int32)), (own_at q1 (4 : Int32)), (own_at q1 (5 : Int32))]))])) _
      refine XS.iload X98.here hx rfl (hb hby at_224) rfl ?_
      show Steps p.tables e below (T98.setTop (mkF m 226 #[.val (.int p1), .val (.long q1), .second, .val (.int (6 : Int32)), .val (.ref b73), .val (.int (((((((0 : Int32) + (own_at q1 (0 : Int32))) + (own_at q1 (1 : Int32))) + (own_at q1 (2 : Int32))) + (own_at q1 (3 : Int32))) + (own_at q1 (4 : Int32))) + (own_at q1 (5 : Int32)))), .val (.int (own_cs [(own_at q1 (0 : Int32)), (own_at q1 (1 : Int32)), (own_at q1 (2 : Int32)), (own_at q1 (3 : Int32)), (own_at q1 (4 : Int32)), (own_at q1 (5 : Int32))]))] [(.int (((((((0 : Int32) + (own_at q1 (0 : Int32))) + (own_at q1 (1 : Int32))) + (own_at q1 (2 : Int32))) + (own_at q1 (3 : Int32))) + (own_at q1 (4 : Int32))) + (own_at q1 (5 : Int32)))), (.int (own_cs [(own_at q1 (0 : Int32)), (own_at q1 (1 : Int32)), (own_at q1 (2 : Int32)), (own_at q1 (3 : Int32)), (own_at q1 (4 : Int32)), (own_at q1 (5 : Int32))]))])) _
      refine XS.sipush X98.here hx rfl (hb hby at_226) ?_
      show Steps p.tables e below (T98.setTop (mkF m 229 #[.val (.int p1), .val (.long q1), .second, .val (.int (6 : Int32)), .val (.ref b73), .val (.int (((((((0 : Int32) + (own_at q1 (0 : Int32))) + (own_at q1 (1 : Int32))) + (own_at q1 (2 : Int32))) + (own_at q1 (3 : Int32))) + (own_at q1 (4 : Int32))) + (own_at q1 (5 : Int32)))), .val (.int (own_cs [(own_at q1 (0 : Int32)), (own_at q1 (1 : Int32)), (own_at q1 (2 : Int32)), (own_at q1 (3 : Int32)), (own_at q1 (4 : Int32)), (own_at q1 (5 : Int32))]))] [(.int (255 : Int32)), (.int (((((((0 : Int32) + (own_at q1 (0 : Int32))) + (own_at q1 (1 : Int32))) + (own_at q1 (2 : Int32))) + (own_at q1 (3 : Int32))) + (own_at q1 (4 : Int32))) + (own_at q1 (5 : Int32)))), (.int (own_cs [(own_at q1 (0 : Int32)), (own_at q1 (1 : Int32)), (own_at q1 (2 : Int32)), (own_at q1 (3 : Int32)), (own_at q1 (4 : Int32)), (own_at q1 (5 : Int32))]))])) _
      refine XS.iand X98.here hx rfl (hb hby at_229) rfl ?_
      show Steps p.tables e below (T98.setTop (mkF m 230 #[.val (.int p1), .val (.long q1), .second, .val (.int (6 : Int32)), .val (.ref b73), .val (.int (((((((0 : Int32) + (own_at q1 (0 : Int32))) + (own_at q1 (1 : Int32))) + (own_at q1 (2 : Int32))) + (own_at q1 (3 : Int32))) + (own_at q1 (4 : Int32))) + (own_at q1 (5 : Int32)))), .val (.int (own_cs [(own_at q1 (0 : Int32)), (own_at q1 (1 : Int32)), (own_at q1 (2 : Int32)), (own_at q1 (3 : Int32)), (own_at q1 (4 : Int32)), (own_at q1 (5 : Int32))]))] [(.int ((((((((0 : Int32) + (own_at q1 (0 : Int32))) + (own_at q1 (1 : Int32))) + (own_at q1 (2 : Int32))) + (own_at q1 (3 : Int32))) + (own_at q1 (4 : Int32))) + (own_at q1 (5 : Int32))) &&& (255 : Int32))), (.int (own_cs [(own_at q1 (0 : Int32)), (own_at q1 (1 : Int32)), (own_at q1 (2 : Int32)), (own_at q1 (3 : Int32)), (own_at q1 (4 : Int32)), (own_at q1 (5 : Int32))]))])) _
      refine XS.icmpNo X98.here hx rfl (hb hby at_230) rfl (teq (own_key [(own_at q1 (0 : Int32)), (own_at q1 (1 : Int32)), (own_at q1 (2 : Int32)), (own_at q1 (3 : Int32)), (own_at q1 (4 : Int32)), (own_at q1 (5 : Int32))] : (own_cs [(own_at q1 (0 : Int32)), (own_at q1 (1 : Int32)), (own_at q1 (2 : Int32)), (own_at q1 (3 : Int32)), (own_at q1 (4 : Int32)), (own_at q1 (5 : Int32))]) = ((((((((0 : Int32) + (own_at q1 (0 : Int32))) + (own_at q1 (1 : Int32))) + (own_at q1 (2 : Int32))) + (own_at q1 (3 : Int32))) + (own_at q1 (4 : Int32))) + (own_at q1 (5 : Int32))) &&& (255 : Int32)))).2 ?_
      show Steps p.tables e below (T98.setTop (mkF m 233 #[.val (.int p1), .val (.long q1), .second, .val (.int (6 : Int32)), .val (.ref b73), .val (.int (((((((0 : Int32) + (own_at q1 (0 : Int32))) + (own_at q1 (1 : Int32))) + (own_at q1 (2 : Int32))) + (own_at q1 (3 : Int32))) + (own_at q1 (4 : Int32))) + (own_at q1 (5 : Int32)))), .val (.int (own_cs [(own_at q1 (0 : Int32)), (own_at q1 (1 : Int32)), (own_at q1 (2 : Int32)), (own_at q1 (3 : Int32)), (own_at q1 (4 : Int32)), (own_at q1 (5 : Int32))]))] [])) _
      refine XS.iconst X98.here hx rfl (hb hby at_233) ?_
      show Steps p.tables e below (T98.setTop (mkF m 234 #[.val (.int p1), .val (.long q1), .second, .val (.int (6 : Int32)), .val (.ref b73), .val (.int (((((((0 : Int32) + (own_at q1 (0 : Int32))) + (own_at q1 (1 : Int32))) + (own_at q1 (2 : Int32))) + (own_at q1 (3 : Int32))) + (own_at q1 (4 : Int32))) + (own_at q1 (5 : Int32)))), .val (.int (own_cs [(own_at q1 (0 : Int32)), (own_at q1 (1 : Int32)), (own_at q1 (2 : Int32)), (own_at q1 (3 : Int32)), (own_at q1 (4 : Int32)), (own_at q1 (5 : Int32))]))] [(.int (1 : Int32))])) _
      refine XS.goto X98.here hx rfl (pc0 := 234) (pc' := 238) rfl (hb hby at_234) (by decide) (by decide) ?_
      show Steps p.tables e below (T98.setTop (mkF m 238 #[.val (.int p1), .val (.long q1), .second, .val (.int (6 : Int32)), .val (.ref b73), .val (.int (((((((0 : Int32) + (own_at q1 (0 : Int32))) + (own_at q1 (1 : Int32))) + (own_at q1 (2 : Int32))) + (own_at q1 (3 : Int32))) + (own_at q1 (4 : Int32))) + (own_at q1 (5 : Int32)))), .val (.int (own_cs [(own_at q1 (0 : Int32)), (own_at q1 (1 : Int32)), (own_at q1 (2 : Int32)), (own_at q1 (3 : Int32)), (own_at q1 (4 : Int32)), (own_at q1 (5 : Int32))]))] [(.int (1 : Int32))])) _
      exact retN X98 hx (t := .boolean) Bd.returns (by simp) (hb hby at_238) hr
    · show Qown_law Z p1 q1 h0 n0 _ T98.heap _
      rw [e98]
      exact ⟨rfl, N98⟩
  · obtain ⟨T99, h99, k99, X99, e99, E99, A99, st99⟩ := newP X0 hx hZ (hw _ (List.mem_of_getElem? (i := 1) rfl)) e0 (g := (mkF m 9 #[.val (.int p1), .val (.long q1), .second, .val (.int (7 : Int32)), .unset, .unset, .unset] [(.int (7 : Int32))])) rfl (hb hby at_9) rfl (by decide) (cap := 7) (by decide) (by decide) (by decide) (by decide)
    obtain ⟨b99, g99⟩ : ∃ z, z = h0.size := ⟨_, rfl⟩
    rw [← g99] at A99 st99
    have V99 : Arv Z h99 b99 k99 .byte (7 : Int32) [(.int (0 : Int32)), (.int (0 : Int32)), (.int (0 : Int32)), (.int (0 : Int32)), (.int (0 : Int32)), (.int (0 : Int32)), (.int (0 : Int32))] (.int (0 : Int32)) := (Arv.new A99 (by decide)).pad (pad_rep [] (.int (0 : Int32)) 7)
    have g_b99 : n0 ≤ b99 := Nat.le_trans Z0 (Nat.le_of_eq g99.symm)
    have sz_b99 : h0.size ≤ b99 := Nat.le_trans (Keep.refl h0 []).1 (Nat.le_of_eq g99.symm)
    have Z99 : n0 ≤ h99.size := Nat.le_trans Z0 E99.1
    have K99 : Keep h0 h99 [] := (Keep.refl h0 []).ext E99
    obtain ⟨_, _, ⟨T100, L100, k100, n100⟩, -, X100, ⟨Lc100, hQ100, l100, y100, z100⟩, st100⟩ := Jvm.LawKit.callS X99 hx (y := (⟨"com/example/assaybus/assaybus/link/FrameChecksumPinLaw", "at", "(JI)B"⟩ : MethodName)) hown (mvT hZ (hw _ (List.mem_of_getElem? (i := 6) rfl))) (mvT hZ (hw _ (List.mem_of_getElem? (i := 7) rfl))) (mvT hZ (hw _ (List.mem_of_getElem? (i := 8) rfl))) (mvT hZ (hw _ (List.mem_of_getElem? (i := 9) rfl))) (by decide) (backOf (W := 2) (own_mat l Z a0 hw [] q1 (0 : Int32)  h99 n0 Z99 ) hZ (hw _ (List.mem_of_getElem? (i := 9) rfl)) (hw _ (List.mem_of_getElem? (i := 8) rfl)) (by decide) (by decide)) (g := (mkF m 25 #[.val (.int p1), .val (.long q1), .second, .val (.int (7 : Int32)), .val (.ref b99), .val (.int (0 : Int32)), .unset] [(.int (0 : Int32)), (.long q1), (.int (0 : Int32)), (.ref b99)])) rfl (by rw [hml]; rfl) (argsL := [(.long q1), (.int (0 : Int32))]) (rest := [(.int (0 : Int32)), (.ref b99)]) (lenOf pd__JI_B rfl) rfl (by show 2 * 0 + _ ≤ _; exact Nat.le_of_eq rfl) (hb hby at_25) (fun _ _ => ⟨rfl, e99, (by decide : 1 + 0 ≤ _), (by decide : 7 + 0 ≤ _)⟩)
    dsimp only [Pt.U, Pt.locs, Pt.cells, Pt.slots] at X100 l100 y100 z100 st100 hQ100
    replace X100 := X100.more (Nat.le_of_eq (show k100 = 1 from y100)) (Nat.le_of_eq (show n100 = 7 from z100))
    obtain ⟨rfl, Nq100, e100⟩ := hQ100
    have N100 : Fr n0 L100 := by rw [l100]; exact Fr.app N0 Nq100
    obtain ⟨cl101, Ar101, qc101, S101, Nn101, H101, G101⟩ := id V99
    have hin101 : ¬ ((0 : Int32) < 0 ∨ cl101.slots.size ≤ ((0 : Int32)).toNatClampNeg) := inb_of S101 ⟨by decide, by decide⟩
    obtain ⟨T102, h102, X102, e102, W102, st102⟩ := stB X100 hx hZ e100 Ar101 (j := (0 : Int32)) hin101 (g := (mkF m 28 #[.val (.int p1), .val (.long q1), .second, .val (.int (7 : Int32)), .val (.ref b99), .val (.int (0 : Int32)), .unset] [(.int (own_at q1 (0 : Int32))), (.int (0 : Int32)), (.ref b99)])) rfl rfl (hb hby at_28)
    have V102 : Arv Z h102 b99 k99 .byte (7 : Int32) [(.int (nar .byte (own_at q1 (0 : Int32)))), (.int (0 : Int32)), (.int (0 : Int32)), (.int (0 : Int32)), (.int (0 : Int32)), (.int (0 : Int32)), (.int (0 : Int32))] (.int (0 : Int32)) := Arv.set Ar101 qc101 S101 Nn101 H101 G101 (fits_nar_byte _) W102 0 rfl (Nat.le_of_ble_eq_true rfl)
    have V102v : Arv Z h102 b99 k99 .byte (7 : Int32) [(.int (own_at q1 (0 : Int32))), (.int (0 : Int32)), (.int (0 : Int32)), (.int (0 : Int32)), (.int (0 : Int32)), (.int (0 : Int32)), (.int (0 : Int32))] (.int (0 : Int32)) := by have q := V102; rw [own_nara] at q; exact q
    have K102 : Keep h0 h102 [] := K99.wr W102 (Or.inr sz_b99)
    have N102 := Fr.snoc X102 N100 g_b99
    have Z102 : n0 ≤ h102.size := Nat.le_trans Z99 (Keep.of_wr W102).1
    obtain ⟨_, _, ⟨T103, L103, k103, n103⟩, -, X103, ⟨Lc103, hQ103, l103, y103, z103⟩, st103⟩ := Jvm.LawKit.callS X102 hx (y := (⟨"com/example/assaybus/assaybus/link/FrameChecksumPinLaw", "at", "(JI)B"⟩ : MethodName)) hown (mvT hZ (hw _ (List.mem_of_getElem? (i := 6) rfl))) (mvT hZ (hw _ (List.mem_of_getElem? (i := 7) rfl))) (mvT hZ (hw _ (List.mem_of_getElem? (i := 8) rfl))) (mvT hZ (hw _ (List.mem_of_getElem? (i := 9) rfl))) (by decide) (backOf (W := 1) (own_mat l Z a0 hw [] q1 (0 : Int32)  h102 n0 Z102 ) hZ (hw _ (List.mem_of_getElem? (i := 9) rfl)) (hw _ (List.mem_of_getElem? (i := 8) rfl)) (by decide) (by decide)) (g := (mkF m 33 #[.val (.int p1), .val (.long q1), .second, .val (.int (7 : Int32)), .val (.ref b99), .val (.int (0 : Int32)), .unset] [(.int (0 : Int32)), (.long q1), (.int (0 : Int32))])) rfl (by rw [hml]; rfl) (argsL := [(.long q1), (.int (0 : Int32))]) (rest := [(.int (0 : Int32))]) (lenOf pd__JI_B rfl) rfl (by show 2 * 0 + _ ≤ _; exact Nat.le_of_eq rfl) (hb hby at_33) (fun _ _ => ⟨rfl, e102, (by decide : 1 + 0 ≤ _), (by decide : 7 + 0 ≤ _)⟩)
    dsimp only [Pt.U, Pt.locs, Pt.cells, Pt.slots] at X103 l103 y103 z103 st103 hQ103
    replace X103 := X103.more (Nat.le_of_eq (show k103 = 1 from y103)) (Nat.le_of_eq (show n103 = 7 from z103))
    obtain ⟨rfl, Nq103, e103⟩ := hQ103
    have N103 : Fr n0 L103 := by rw [l103]; exact Fr.app N102 Nq103
    obtain ⟨_, _, ⟨T104, L104, k104, n104⟩, -, X104, ⟨Lc104, hQ104, l104, y104, z104⟩, st104⟩ := Jvm.LawKit.callS X103 hx (y := (⟨"com/example/assaybus/assaybus/link/FrameChecksumPinLaw", "at", "(JI)B"⟩ : MethodName)) hown (mvT hZ (hw _ (List.mem_of_getElem? (i := 6) rfl))) (mvT hZ (hw _ (List.mem_of_getElem? (i := 7) rfl))) (mvT hZ (hw _ (List.mem_of_getElem? (i := 8) rfl))) (mvT hZ (hw _ (List.mem_of_getElem? (i := 9) rfl))) (by decide) (backOf (W := 2) (own_mat l Z a0 hw [] q1 (1 : Int32)  h102 n0 Z102 ) hZ (hw _ (List.mem_of_getElem? (i := 9) rfl)) (hw _ (List.mem_of_getElem? (i := 8) rfl)) (by decide) (by decide)) (g := (mkF m 49 #[.val (.int p1), .val (.long q1), .second, .val (.int (7 : Int32)), .val (.ref b99), .val (.int ((0 : Int32) + (own_at q1 (0 : Int32)))), .unset] [(.int (1 : Int32)), (.long q1), (.int (1 : Int32)), (.ref b99)])) rfl (by rw [hml]; rfl) (argsL := [(.long q1), (.int (1 : Int32))]) (rest := [(.int (1 : Int32)), (.ref b99)]) (lenOf pd__JI_B rfl) rfl (by show 2 * 0 + _ ≤ _; exact Nat.le_of_eq rfl) (hb hby at_49) (fun _ _ => ⟨rfl, e103, (by decide : 1 + 0 ≤ _), (by decide : 7 + 0 ≤ _)⟩)
    dsimp only [Pt.U, Pt.locs, Pt.cells, Pt.slots] at X104 l104 y104 z104 st104 hQ104
    replace X104 := X104.more (Nat.le_of_eq (show k104 = 1 from y104)) (Nat.le_of_eq (show n104 = 7 from z104))
    obtain ⟨rfl, Nq104, e104⟩ := hQ104
    have N104 : Fr n0 L104 := by rw [l104]; exact Fr.app N103 Nq104
    obtain ⟨cl105, Ar105, qc105, S105, Nn105, H105, G105⟩ := id V102v
    have hin105 : ¬ ((1 : Int32) < 0 ∨ cl105.slots.size ≤ ((1 : Int32)).toNatClampNeg) := inb_of S105 ⟨by decide, by decide⟩
    obtain ⟨T106, h106, X106, e106, W106, st106⟩ := stB X104 hx hZ e104 Ar105 (j := (1 : Int32)) hin105 (g := (mkF m 52 #[.val (.int p1), .val (.long q1), .second, .val (.int (7 : Int32)), .val (.ref b99), .val (.int ((0 : Int32) + (own_at q1 (0 : Int32)))), .unset] [(.int (own_at q1 (1 : Int32))), (.int (1 : Int32)), (.ref b99)])) rfl rfl (hb hby at_52)
    have V106 : Arv Z h106 b99 k99 .byte (7 : Int32) [(.int (own_at q1 (0 : Int32))), (.int (nar .byte (own_at q1 (1 : Int32)))), (.int (0 : Int32)), (.int (0 : Int32)), (.int (0 : Int32)), (.int (0 : Int32)), (.int (0 : Int32))] (.int (0 : Int32)) := Arv.set Ar105 qc105 S105 Nn105 H105 G105 (fits_nar_byte _) W106 1 rfl (Nat.le_of_ble_eq_true rfl)
    have V106v : Arv Z h106 b99 k99 .byte (7 : Int32) [(.int (own_at q1 (0 : Int32))), (.int (own_at q1 (1 : Int32))), (.int (0 : Int32)), (.int (0 : Int32)), (.int (0 : Int32)), (.int (0 : Int32)), (.int (0 : Int32))] (.int (0 : Int32)) := by have q := V106; rw [own_nara] at q; exact q
    have K106 : Keep h0 h106 [] := K102.wr W106 (Or.inr sz_b99)
    have N106 := Fr.snoc X106 N104 g_b99
    have Z106 : n0 ≤ h106.size := Nat.le_trans Z102 (Keep.of_wr W106).1
    obtain ⟨_, _, ⟨T107, L107, k107, n107⟩, -, X107, ⟨Lc107, hQ107, l107, y107, z107⟩, st107⟩ := Jvm.LawKit.callS X106 hx (y := (⟨"com/example/assaybus/assaybus/link/FrameChecksumPinLaw", "at", "(JI)B"⟩ : MethodName)) hown (mvT hZ (hw _ (List.mem_of_getElem? (i := 6) rfl))) (mvT hZ (hw _ (List.mem_of_getElem? (i := 7) rfl))) (mvT hZ (hw _ (List.mem_of_getElem? (i := 8) rfl))) (mvT hZ (hw _ (List.mem_of_getElem? (i := 9) rfl))) (by decide) (backOf (W := 1) (own_mat l Z a0 hw [] q1 (1 : Int32)  h106 n0 Z106 ) hZ (hw _ (List.mem_of_getElem? (i := 9) rfl)) (hw _ (List.mem_of_getElem? (i := 8) rfl)) (by decide) (by decide)) (g := (mkF m 57 #[.val (.int p1), .val (.long q1), .second, .val (.int (7 : Int32)), .val (.ref b99), .val (.int ((0 : Int32) + (own_at q1 (0 : Int32)))), .unset] [(.int (1 : Int32)), (.long q1), (.int ((0 : Int32) + (own_at q1 (0 : Int32))))])) rfl (by rw [hml]; rfl) (argsL := [(.long q1), (.int (1 : Int32))]) (rest := [(.int ((0 : Int32) + (own_at q1 (0 : Int32))))]) (lenOf pd__JI_B rfl) rfl (by show 2 * 0 + _ ≤ _; exact Nat.le_of_eq rfl) (hb hby at_57) (fun _ _ => ⟨rfl, e106, (by decide : 1 + 0 ≤ _), (by decide : 7 + 0 ≤ _)⟩)
    dsimp only [Pt.U, Pt.locs, Pt.cells, Pt.slots] at X107 l107 y107 z107 st107 hQ107
    replace X107 := X107.more (Nat.le_of_eq (show k107 = 1 from y107)) (Nat.le_of_eq (show n107 = 7 from z107))
    obtain ⟨rfl, Nq107, e107⟩ := hQ107
    have N107 : Fr n0 L107 := by rw [l107]; exact Fr.app N106 Nq107
    obtain ⟨_, _, ⟨T108, L108, k108, n108⟩, -, X108, ⟨Lc108, hQ108, l108, y108, z108⟩, st108⟩ := Jvm.LawKit.callS X107 hx (y := (⟨"com/example/assaybus/assaybus/link/FrameChecksumPinLaw", "at", "(JI)B"⟩ : MethodName)) hown (mvT hZ (hw _ (List.mem_of_getElem? (i := 6) rfl))) (mvT hZ (hw _ (List.mem_of_getElem? (i := 7) rfl))) (mvT hZ (hw _ (List.mem_of_getElem? (i := 8) rfl))) (mvT hZ (hw _ (List.mem_of_getElem? (i := 9) rfl))) (by decide) (backOf (W := 2) (own_mat l Z a0 hw [] q1 (2 : Int32)  h106 n0 Z106 ) hZ (hw _ (List.mem_of_getElem? (i := 9) rfl)) (hw _ (List.mem_of_getElem? (i := 8) rfl)) (by decide) (by decide)) (g := (mkF m 73 #[.val (.int p1), .val (.long q1), .second, .val (.int (7 : Int32)), .val (.ref b99), .val (.int (((0 : Int32) + (own_at q1 (0 : Int32))) + (own_at q1 (1 : Int32)))), .unset] [(.int (2 : Int32)), (.long q1), (.int (2 : Int32)), (.ref b99)])) rfl (by rw [hml]; rfl) (argsL := [(.long q1), (.int (2 : Int32))]) (rest := [(.int (2 : Int32)), (.ref b99)]) (lenOf pd__JI_B rfl) rfl (by show 2 * 0 + _ ≤ _; exact Nat.le_of_eq rfl) (hb hby at_73) (fun _ _ => ⟨rfl, e107, (by decide : 1 + 0 ≤ _), (by decide : 7 + 0 ≤ _)⟩)
    dsimp only [Pt.U, Pt.locs, Pt.cells, Pt.slots] at X108 l108 y108 z108 st108 hQ108
    replace X108 := X108.more (Nat.le_of_eq (show k108 = 1 from y108)) (Nat.le_of_eq (show n108 = 7 from z108))
    obtain ⟨rfl, Nq108, e108⟩ := hQ108
    have N108 : Fr n0 L108 := by rw [l108]; exact Fr.app N107 Nq108
    obtain ⟨cl109, Ar109, qc109, S109, Nn109, H109, G109⟩ := id V106v
    have hin109 : ¬ ((2 : Int32) < 0 ∨ cl109.slots.size ≤ ((2 : Int32)).toNatClampNeg) := inb_of S109 ⟨by decide, by decide⟩
    obtain ⟨T110, h110, X110, e110, W110, st110⟩ := stB X108 hx hZ e108 Ar109 (j := (2 : Int32)) hin109 (g := (mkF m 76 #[.val (.int p1), .val (.long q1), .second, .val (.int (7 : Int32)), .val (.ref b99), .val (.int (((0 : Int32) + (own_at q1 (0 : Int32))) + (own_at q1 (1 : Int32)))), .unset] [(.int (own_at q1 (2 : Int32))), (.int (2 : Int32)), (.ref b99)])) rfl rfl (hb hby at_76)
    have V110 : Arv Z h110 b99 k99 .byte (7 : Int32) [(.int (own_at q1 (0 : Int32))), (.int (own_at q1 (1 : Int32))), (.int (nar .byte (own_at q1 (2 : Int32)))), (.int (0 : Int32)), (.int (0 : Int32)), (.int (0 : Int32)), (.int (0 : Int32))] (.int (0 : Int32)) := Arv.set Ar109 qc109 S109 Nn109 H109 G109 (fits_nar_byte _) W110 2 rfl (Nat.le_of_ble_eq_true rfl)
    have V110v : Arv Z h110 b99 k99 .byte (7 : Int32) [(.int (own_at q1 (0 : Int32))), (.int (own_at q1 (1 : Int32))), (.int (own_at q1 (2 : Int32))), (.int (0 : Int32)), (.int (0 : Int32)), (.int (0 : Int32)), (.int (0 : Int32))] (.int (0 : Int32)) := by have q := V110; rw [own_nara] at q; exact q
    have K110 : Keep h0 h110 [] := K106.wr W110 (Or.inr sz_b99)
    have N110 := Fr.snoc X110 N108 g_b99
    have Z110 : n0 ≤ h110.size := Nat.le_trans Z106 (Keep.of_wr W110).1
    obtain ⟨_, _, ⟨T111, L111, k111, n111⟩, -, X111, ⟨Lc111, hQ111, l111, y111, z111⟩, st111⟩ := Jvm.LawKit.callS X110 hx (y := (⟨"com/example/assaybus/assaybus/link/FrameChecksumPinLaw", "at", "(JI)B"⟩ : MethodName)) hown (mvT hZ (hw _ (List.mem_of_getElem? (i := 6) rfl))) (mvT hZ (hw _ (List.mem_of_getElem? (i := 7) rfl))) (mvT hZ (hw _ (List.mem_of_getElem? (i := 8) rfl))) (mvT hZ (hw _ (List.mem_of_getElem? (i := 9) rfl))) (by decide) (backOf (W := 1) (own_mat l Z a0 hw [] q1 (2 : Int32)  h110 n0 Z110 ) hZ (hw _ (List.mem_of_getElem? (i := 9) rfl)) (hw _ (List.mem_of_getElem? (i := 8) rfl)) (by decide) (by decide)) (g := (mkF m 81 #[.val (.int p1), .val (.long q1), .second, .val (.int (7 : Int32)), .val (.ref b99), .val (.int (((0 : Int32) + (own_at q1 (0 : Int32))) + (own_at q1 (1 : Int32)))), .unset] [(.int (2 : Int32)), (.long q1), (.int (((0 : Int32) + (own_at q1 (0 : Int32))) + (own_at q1 (1 : Int32))))])) rfl (by rw [hml]; rfl) (argsL := [(.long q1), (.int (2 : Int32))]) (rest := [(.int (((0 : Int32) + (own_at q1 (0 : Int32))) + (own_at q1 (1 : Int32))))]) (lenOf pd__JI_B rfl) rfl (by show 2 * 0 + _ ≤ _; exact Nat.le_of_eq rfl) (hb hby at_81) (fun _ _ => ⟨rfl, e110, (by decide : 1 + 0 ≤ _), (by decide : 7 + 0 ≤ _)⟩)
    dsimp only [Pt.U, Pt.locs, Pt.cells, Pt.slots] at X111 l111 y111 z111 st111 hQ111
    replace X111 := X111.more (Nat.le_of_eq (show k111 = 1 from y111)) (Nat.le_of_eq (show n111 = 7 from z111))
    obtain ⟨rfl, Nq111, e111⟩ := hQ111
    have N111 : Fr n0 L111 := by rw [l111]; exact Fr.app N110 Nq111
    obtain ⟨_, _, ⟨T112, L112, k112, n112⟩, -, X112, ⟨Lc112, hQ112, l112, y112, z112⟩, st112⟩ := Jvm.LawKit.callS X111 hx (y := (⟨"com/example/assaybus/assaybus/link/FrameChecksumPinLaw", "at", "(JI)B"⟩ : MethodName)) hown (mvT hZ (hw _ (List.mem_of_getElem? (i := 6) rfl))) (mvT hZ (hw _ (List.mem_of_getElem? (i := 7) rfl))) (mvT hZ (hw _ (List.mem_of_getElem? (i := 8) rfl))) (mvT hZ (hw _ (List.mem_of_getElem? (i := 9) rfl))) (by decide) (backOf (W := 2) (own_mat l Z a0 hw [] q1 (3 : Int32)  h110 n0 Z110 ) hZ (hw _ (List.mem_of_getElem? (i := 9) rfl)) (hw _ (List.mem_of_getElem? (i := 8) rfl)) (by decide) (by decide)) (g := (mkF m 97 #[.val (.int p1), .val (.long q1), .second, .val (.int (7 : Int32)), .val (.ref b99), .val (.int ((((0 : Int32) + (own_at q1 (0 : Int32))) + (own_at q1 (1 : Int32))) + (own_at q1 (2 : Int32)))), .unset] [(.int (3 : Int32)), (.long q1), (.int (3 : Int32)), (.ref b99)])) rfl (by rw [hml]; rfl) (argsL := [(.long q1), (.int (3 : Int32))]) (rest := [(.int (3 : Int32)), (.ref b99)]) (lenOf pd__JI_B rfl) rfl (by show 2 * 0 + _ ≤ _; exact Nat.le_of_eq rfl) (hb hby at_97) (fun _ _ => ⟨rfl, e111, (by decide : 1 + 0 ≤ _), (by decide : 7 + 0 ≤ _)⟩)
    dsimp only [Pt.U, Pt.locs, Pt.cells, Pt.slots] at X112 l112 y112 z112 st112 hQ112
    replace X112 := X112.more (Nat.le_of_eq (show k112 = 1 from y112)) (Nat.le_of_eq (show n112 = 7 from z112))
    obtain ⟨rfl, Nq112, e112⟩ := hQ112
    have N112 : Fr n0 L112 := by rw [l112]; exact Fr.app N111 Nq112
    obtain ⟨cl113, Ar113, qc113, S113, Nn113, H113, G113⟩ := id V110v
    have hin113 : ¬ ((3 : Int32) < 0 ∨ cl113.slots.size ≤ ((3 : Int32)).toNatClampNeg) := inb_of S113 ⟨by decide, by decide⟩
    obtain ⟨T114, h114, X114, e114, W114, st114⟩ := stB X112 hx hZ e112 Ar113 (j := (3 : Int32)) hin113 (g := (mkF m 100 #[.val (.int p1), .val (.long q1), .second, .val (.int (7 : Int32)), .val (.ref b99), .val (.int ((((0 : Int32) + (own_at q1 (0 : Int32))) + (own_at q1 (1 : Int32))) + (own_at q1 (2 : Int32)))), .unset] [(.int (own_at q1 (3 : Int32))), (.int (3 : Int32)), (.ref b99)])) rfl rfl (hb hby at_100)
    have V114 : Arv Z h114 b99 k99 .byte (7 : Int32) [(.int (own_at q1 (0 : Int32))), (.int (own_at q1 (1 : Int32))), (.int (own_at q1 (2 : Int32))), (.int (nar .byte (own_at q1 (3 : Int32)))), (.int (0 : Int32)), (.int (0 : Int32)), (.int (0 : Int32))] (.int (0 : Int32)) := Arv.set Ar113 qc113 S113 Nn113 H113 G113 (fits_nar_byte _) W114 3 rfl (Nat.le_of_ble_eq_true rfl)
    have V114v : Arv Z h114 b99 k99 .byte (7 : Int32) [(.int (own_at q1 (0 : Int32))), (.int (own_at q1 (1 : Int32))), (.int (own_at q1 (2 : Int32))), (.int (own_at q1 (3 : Int32))), (.int (0 : Int32)), (.int (0 : Int32)), (.int (0 : Int32))] (.int (0 : Int32)) := by have q := V114; rw [own_nara] at q; exact q
    have K114 : Keep h0 h114 [] := K110.wr W114 (Or.inr sz_b99)
    have N114 := Fr.snoc X114 N112 g_b99
    have Z114 : n0 ≤ h114.size := Nat.le_trans Z110 (Keep.of_wr W114).1
    obtain ⟨_, _, ⟨T115, L115, k115, n115⟩, -, X115, ⟨Lc115, hQ115, l115, y115, z115⟩, st115⟩ := Jvm.LawKit.callS X114 hx (y := (⟨"com/example/assaybus/assaybus/link/FrameChecksumPinLaw", "at", "(JI)B"⟩ : MethodName)) hown (mvT hZ (hw _ (List.mem_of_getElem? (i := 6) rfl))) (mvT hZ (hw _ (List.mem_of_getElem? (i := 7) rfl))) (mvT hZ (hw _ (List.mem_of_getElem? (i := 8) rfl))) (mvT hZ (hw _ (List.mem_of_getElem? (i := 9) rfl))) (by decide) (backOf (W := 1) (own_mat l Z a0 hw [] q1 (3 : Int32)  h114 n0 Z114 ) hZ (hw _ (List.mem_of_getElem? (i := 9) rfl)) (hw _ (List.mem_of_getElem? (i := 8) rfl)) (by decide) (by decide)) (g := (mkF m 105 #[.val (.int p1), .val (.long q1), .second, .val (.int (7 : Int32)), .val (.ref b99), .val (.int ((((0 : Int32) + (own_at q1 (0 : Int32))) + (own_at q1 (1 : Int32))) + (own_at q1 (2 : Int32)))), .unset] [(.int (3 : Int32)), (.long q1), (.int ((((0 : Int32) + (own_at q1 (0 : Int32))) + (own_at q1 (1 : Int32))) + (own_at q1 (2 : Int32))))])) rfl (by rw [hml]; rfl) (argsL := [(.long q1), (.int (3 : Int32))]) (rest := [(.int ((((0 : Int32) + (own_at q1 (0 : Int32))) + (own_at q1 (1 : Int32))) + (own_at q1 (2 : Int32))))]) (lenOf pd__JI_B rfl) rfl (by show 2 * 0 + _ ≤ _; exact Nat.le_of_eq rfl) (hb hby at_105) (fun _ _ => ⟨rfl, e114, (by decide : 1 + 0 ≤ _), (by decide : 7 + 0 ≤ _)⟩)
    dsimp only [Pt.U, Pt.locs, Pt.cells, Pt.slots] at X115 l115 y115 z115 st115 hQ115
    replace X115 := X115.more (Nat.le_of_eq (show k115 = 1 from y115)) (Nat.le_of_eq (show n115 = 7 from z115))
    obtain ⟨rfl, Nq115, e115⟩ := hQ115
    have N115 : Fr n0 L115 := by rw [l115]; exact Fr.app N114 Nq115
    obtain ⟨_, _, ⟨T116, L116, k116, n116⟩, -, X116, ⟨Lc116, hQ116, l116, y116, z116⟩, st116⟩ := Jvm.LawKit.callS X115 hx (y := (⟨"com/example/assaybus/assaybus/link/FrameChecksumPinLaw", "at", "(JI)B"⟩ : MethodName)) hown (mvT hZ (hw _ (List.mem_of_getElem? (i := 6) rfl))) (mvT hZ (hw _ (List.mem_of_getElem? (i := 7) rfl))) (mvT hZ (hw _ (List.mem_of_getElem? (i := 8) rfl))) (mvT hZ (hw _ (List.mem_of_getElem? (i := 9) rfl))) (by decide) (backOf (W := 2) (own_mat l Z a0 hw [] q1 (4 : Int32)  h114 n0 Z114 ) hZ (hw _ (List.mem_of_getElem? (i := 9) rfl)) (hw _ (List.mem_of_getElem? (i := 8) rfl)) (by decide) (by decide)) (g := (mkF m 121 #[.val (.int p1), .val (.long q1), .second, .val (.int (7 : Int32)), .val (.ref b99), .val (.int (((((0 : Int32) + (own_at q1 (0 : Int32))) + (own_at q1 (1 : Int32))) + (own_at q1 (2 : Int32))) + (own_at q1 (3 : Int32)))), .unset] [(.int (4 : Int32)), (.long q1), (.int (4 : Int32)), (.ref b99)])) rfl (by rw [hml]; rfl) (argsL := [(.long q1), (.int (4 : Int32))]) (rest := [(.int (4 : Int32)), (.ref b99)]) (lenOf pd__JI_B rfl) rfl (by show 2 * 0 + _ ≤ _; exact Nat.le_of_eq rfl) (hb hby at_121) (fun _ _ => ⟨rfl, e115, (by decide : 1 + 0 ≤ _), (by decide : 7 + 0 ≤ _)⟩)
    dsimp only [Pt.U, Pt.locs, Pt.cells, Pt.slots] at X116 l116 y116 z116 st116 hQ116
    replace X116 := X116.more (Nat.le_of_eq (show k116 = 1 from y116)) (Nat.le_of_eq (show n116 = 7 from z116))
    obtain ⟨rfl, Nq116, e116⟩ := hQ116
    have N116 : Fr n0 L116 := by rw [l116]; exact Fr.app N115 Nq116
    obtain ⟨cl117, Ar117, qc117, S117, Nn117, H117, G117⟩ := id V114v
    have hin117 : ¬ ((4 : Int32) < 0 ∨ cl117.slots.size ≤ ((4 : Int32)).toNatClampNeg) := inb_of S117 ⟨by decide, by decide⟩
    obtain ⟨T118, h118, X118, e118, W118, st118⟩ := stB X116 hx hZ e116 Ar117 (j := (4 : Int32)) hin117 (g := (mkF m 124 #[.val (.int p1), .val (.long q1), .second, .val (.int (7 : Int32)), .val (.ref b99), .val (.int (((((0 : Int32) + (own_at q1 (0 : Int32))) + (own_at q1 (1 : Int32))) + (own_at q1 (2 : Int32))) + (own_at q1 (3 : Int32)))), .unset] [(.int (own_at q1 (4 : Int32))), (.int (4 : Int32)), (.ref b99)])) rfl rfl (hb hby at_124)
    have V118 : Arv Z h118 b99 k99 .byte (7 : Int32) [(.int (own_at q1 (0 : Int32))), (.int (own_at q1 (1 : Int32))), (.int (own_at q1 (2 : Int32))), (.int (own_at q1 (3 : Int32))), (.int (nar .byte (own_at q1 (4 : Int32)))), (.int (0 : Int32)), (.int (0 : Int32))] (.int (0 : Int32)) := Arv.set Ar117 qc117 S117 Nn117 H117 G117 (fits_nar_byte _) W118 4 rfl (Nat.le_of_ble_eq_true rfl)
    have V118v : Arv Z h118 b99 k99 .byte (7 : Int32) [(.int (own_at q1 (0 : Int32))), (.int (own_at q1 (1 : Int32))), (.int (own_at q1 (2 : Int32))), (.int (own_at q1 (3 : Int32))), (.int (own_at q1 (4 : Int32))), (.int (0 : Int32)), (.int (0 : Int32))] (.int (0 : Int32)) := by have q := V118; rw [own_nara] at q; exact q
    have K118 : Keep h0 h118 [] := K114.wr W118 (Or.inr sz_b99)
    have N118 := Fr.snoc X118 N116 g_b99
    have Z118 : n0 ≤ h118.size := Nat.le_trans Z114 (Keep.of_wr W118).1
    obtain ⟨_, _, ⟨T119, L119, k119, n119⟩, -, X119, ⟨Lc119, hQ119, l119, y119, z119⟩, st119⟩ := Jvm.LawKit.callS X118 hx (y := (⟨"com/example/assaybus/assaybus/link/FrameChecksumPinLaw", "at", "(JI)B"⟩ : MethodName)) hown (mvT hZ (hw _ (List.mem_of_getElem? (i := 6) rfl))) (mvT hZ (hw _ (List.mem_of_getElem? (i := 7) rfl))) (mvT hZ (hw _ (List.mem_of_getElem? (i := 8) rfl))) (mvT hZ (hw _ (List.mem_of_getElem? (i := 9) rfl))) (by decide) (backOf (W := 1) (own_mat l Z a0 hw [] q1 (4 : Int32)  h118 n0 Z118 ) hZ (hw _ (List.mem_of_getElem? (i := 9) rfl)) (hw _ (List.mem_of_getElem? (i := 8) rfl)) (by decide) (by decide)) (g := (mkF m 129 #[.val (.int p1), .val (.long q1), .second, .val (.int (7 : Int32)), .val (.ref b99), .val (.int (((((0 : Int32) + (own_at q1 (0 : Int32))) + (own_at q1 (1 : Int32))) + (own_at q1 (2 : Int32))) + (own_at q1 (3 : Int32)))), .unset] [(.int (4 : Int32)), (.long q1), (.int (((((0 : Int32) + (own_at q1 (0 : Int32))) + (own_at q1 (1 : Int32))) + (own_at q1 (2 : Int32))) + (own_at q1 (3 : Int32))))])) rfl (by rw [hml]; rfl) (argsL := [(.long q1), (.int (4 : Int32))]) (rest := [(.int (((((0 : Int32) + (own_at q1 (0 : Int32))) + (own_at q1 (1 : Int32))) + (own_at q1 (2 : Int32))) + (own_at q1 (3 : Int32))))]) (lenOf pd__JI_B rfl) rfl (by show 2 * 0 + _ ≤ _; exact Nat.le_of_eq rfl) (hb hby at_129) (fun _ _ => ⟨rfl, e118, (by decide : 1 + 0 ≤ _), (by decide : 7 + 0 ≤ _)⟩)
    dsimp only [Pt.U, Pt.locs, Pt.cells, Pt.slots] at X119 l119 y119 z119 st119 hQ119
    replace X119 := X119.more (Nat.le_of_eq (show k119 = 1 from y119)) (Nat.le_of_eq (show n119 = 7 from z119))
    obtain ⟨rfl, Nq119, e119⟩ := hQ119
    have N119 : Fr n0 L119 := by rw [l119]; exact Fr.app N118 Nq119
    obtain ⟨_, _, ⟨T120, L120, k120, n120⟩, -, X120, ⟨Lc120, hQ120, l120, y120, z120⟩, st120⟩ := Jvm.LawKit.callS X119 hx (y := (⟨"com/example/assaybus/assaybus/link/FrameChecksumPinLaw", "at", "(JI)B"⟩ : MethodName)) hown (mvT hZ (hw _ (List.mem_of_getElem? (i := 6) rfl))) (mvT hZ (hw _ (List.mem_of_getElem? (i := 7) rfl))) (mvT hZ (hw _ (List.mem_of_getElem? (i := 8) rfl))) (mvT hZ (hw _ (List.mem_of_getElem? (i := 9) rfl))) (by decide) (backOf (W := 2) (own_mat l Z a0 hw [] q1 (5 : Int32)  h118 n0 Z118 ) hZ (hw _ (List.mem_of_getElem? (i := 9) rfl)) (hw _ (List.mem_of_getElem? (i := 8) rfl)) (by decide) (by decide)) (g := (mkF m 145 #[.val (.int p1), .val (.long q1), .second, .val (.int (7 : Int32)), .val (.ref b99), .val (.int ((((((0 : Int32) + (own_at q1 (0 : Int32))) + (own_at q1 (1 : Int32))) + (own_at q1 (2 : Int32))) + (own_at q1 (3 : Int32))) + (own_at q1 (4 : Int32)))), .unset] [(.int (5 : Int32)), (.long q1), (.int (5 : Int32)), (.ref b99)])) rfl (by rw [hml]; rfl) (argsL := [(.long q1), (.int (5 : Int32))]) (rest := [(.int (5 : Int32)), (.ref b99)]) (lenOf pd__JI_B rfl) rfl (by show 2 * 0 + _ ≤ _; exact Nat.le_of_eq rfl) (hb hby at_145) (fun _ _ => ⟨rfl, e119, (by decide : 1 + 0 ≤ _), (by decide : 7 + 0 ≤ _)⟩)
    dsimp only [Pt.U, Pt.locs, Pt.cells, Pt.slots] at X120 l120 y120 z120 st120 hQ120
    replace X120 := X120.more (Nat.le_of_eq (show k120 = 1 from y120)) (Nat.le_of_eq (show n120 = 7 from z120))
    obtain ⟨rfl, Nq120, e120⟩ := hQ120
    have N120 : Fr n0 L120 := by rw [l120]; exact Fr.app N119 Nq120
    obtain ⟨cl121, Ar121, qc121, S121, Nn121, H121, G121⟩ := id V118v
    have hin121 : ¬ ((5 : Int32) < 0 ∨ cl121.slots.size ≤ ((5 : Int32)).toNatClampNeg) := inb_of S121 ⟨by decide, by decide⟩
    obtain ⟨T122, h122, X122, e122, W122, st122⟩ := stB X120 hx hZ e120 Ar121 (j := (5 : Int32)) hin121 (g := (mkF m 148 #[.val (.int p1), .val (.long q1), .second, .val (.int (7 : Int32)), .val (.ref b99), .val (.int ((((((0 : Int32) + (own_at q1 (0 : Int32))) + (own_at q1 (1 : Int32))) + (own_at q1 (2 : Int32))) + (own_at q1 (3 : Int32))) + (own_at q1 (4 : Int32)))), .unset] [(.int (own_at q1 (5 : Int32))), (.int (5 : Int32)), (.ref b99)])) rfl rfl (hb hby at_148)
    have V122 : Arv Z h122 b99 k99 .byte (7 : Int32) [(.int (own_at q1 (0 : Int32))), (.int (own_at q1 (1 : Int32))), (.int (own_at q1 (2 : Int32))), (.int (own_at q1 (3 : Int32))), (.int (own_at q1 (4 : Int32))), (.int (nar .byte (own_at q1 (5 : Int32)))), (.int (0 : Int32))] (.int (0 : Int32)) := Arv.set Ar121 qc121 S121 Nn121 H121 G121 (fits_nar_byte _) W122 5 rfl (Nat.le_of_ble_eq_true rfl)
    have V122v : Arv Z h122 b99 k99 .byte (7 : Int32) [(.int (own_at q1 (0 : Int32))), (.int (own_at q1 (1 : Int32))), (.int (own_at q1 (2 : Int32))), (.int (own_at q1 (3 : Int32))), (.int (own_at q1 (4 : Int32))), (.int (own_at q1 (5 : Int32))), (.int (0 : Int32))] (.int (0 : Int32)) := by have q := V122; rw [own_nara] at q; exact q
    have K122 : Keep h0 h122 [] := K118.wr W122 (Or.inr sz_b99)
    have N122 := Fr.snoc X122 N120 g_b99
    have Z122 : n0 ≤ h122.size := Nat.le_trans Z118 (Keep.of_wr W122).1
    obtain ⟨_, _, ⟨T123, L123, k123, n123⟩, -, X123, ⟨Lc123, hQ123, l123, y123, z123⟩, st123⟩ := Jvm.LawKit.callS X122 hx (y := (⟨"com/example/assaybus/assaybus/link/FrameChecksumPinLaw", "at", "(JI)B"⟩ : MethodName)) hown (mvT hZ (hw _ (List.mem_of_getElem? (i := 6) rfl))) (mvT hZ (hw _ (List.mem_of_getElem? (i := 7) rfl))) (mvT hZ (hw _ (List.mem_of_getElem? (i := 8) rfl))) (mvT hZ (hw _ (List.mem_of_getElem? (i := 9) rfl))) (by decide) (backOf (W := 1) (own_mat l Z a0 hw [] q1 (5 : Int32)  h122 n0 Z122 ) hZ (hw _ (List.mem_of_getElem? (i := 9) rfl)) (hw _ (List.mem_of_getElem? (i := 8) rfl)) (by decide) (by decide)) (g := (mkF m 153 #[.val (.int p1), .val (.long q1), .second, .val (.int (7 : Int32)), .val (.ref b99), .val (.int ((((((0 : Int32) + (own_at q1 (0 : Int32))) + (own_at q1 (1 : Int32))) + (own_at q1 (2 : Int32))) + (own_at q1 (3 : Int32))) + (own_at q1 (4 : Int32)))), .unset] [(.int (5 : Int32)), (.long q1), (.int ((((((0 : Int32) + (own_at q1 (0 : Int32))) + (own_at q1 (1 : Int32))) + (own_at q1 (2 : Int32))) + (own_at q1 (3 : Int32))) + (own_at q1 (4 : Int32))))])) rfl (by rw [hml]; rfl) (argsL := [(.long q1), (.int (5 : Int32))]) (rest := [(.int ((((((0 : Int32) + (own_at q1 (0 : Int32))) + (own_at q1 (1 : Int32))) + (own_at q1 (2 : Int32))) + (own_at q1 (3 : Int32))) + (own_at q1 (4 : Int32))))]) (lenOf pd__JI_B rfl) rfl (by show 2 * 0 + _ ≤ _; exact Nat.le_of_eq rfl) (hb hby at_153) (fun _ _ => ⟨rfl, e122, (by decide : 1 + 0 ≤ _), (by decide : 7 + 0 ≤ _)⟩)
    dsimp only [Pt.U, Pt.locs, Pt.cells, Pt.slots] at X123 l123 y123 z123 st123 hQ123
    replace X123 := X123.more (Nat.le_of_eq (show k123 = 1 from y123)) (Nat.le_of_eq (show n123 = 7 from z123))
    obtain ⟨rfl, Nq123, e123⟩ := hQ123
    have N123 : Fr n0 L123 := by rw [l123]; exact Fr.app N122 Nq123
    obtain ⟨_, _, ⟨T124, L124, k124, n124⟩, -, X124, ⟨Lc124, hQ124, l124, y124, z124⟩, st124⟩ := Jvm.LawKit.callS X123 hx (y := (⟨"com/example/assaybus/assaybus/link/FrameChecksumPinLaw", "at", "(JI)B"⟩ : MethodName)) hown (mvT hZ (hw _ (List.mem_of_getElem? (i := 6) rfl))) (mvT hZ (hw _ (List.mem_of_getElem? (i := 7) rfl))) (mvT hZ (hw _ (List.mem_of_getElem? (i := 8) rfl))) (mvT hZ (hw _ (List.mem_of_getElem? (i := 9) rfl))) (by decide) (backOf (W := 2) (own_mat l Z a0 hw [] q1 (6 : Int32)  h122 n0 Z122 ) hZ (hw _ (List.mem_of_getElem? (i := 9) rfl)) (hw _ (List.mem_of_getElem? (i := 8) rfl)) (by decide) (by decide)) (g := (mkF m 172 #[.val (.int p1), .val (.long q1), .second, .val (.int (7 : Int32)), .val (.ref b99), .val (.int (((((((0 : Int32) + (own_at q1 (0 : Int32))) + (own_at q1 (1 : Int32))) + (own_at q1 (2 : Int32))) + (own_at q1 (3 : Int32))) + (own_at q1 (4 : Int32))) + (own_at q1 (5 : Int32)))), .unset] [(.int (6 : Int32)), (.long q1), (.int (6 : Int32)), (.ref b99)])) rfl (by rw [hml]; rfl) (argsL := [(.long q1), (.int (6 : Int32))]) (rest := [(.int (6 : Int32)), (.ref b99)]) (lenOf pd__JI_B rfl) rfl (by show 2 * 0 + _ ≤ _; exact Nat.le_of_eq rfl) (hb hby at_172) (fun _ _ => ⟨rfl, e123, (by decide : 1 + 0 ≤ _), (by decide : 7 + 0 ≤ _)⟩)
    dsimp only [Pt.U, Pt.locs, Pt.cells, Pt.slots] at X124 l124 y124 z124 st124 hQ124
    replace X124 := X124.more (Nat.le_of_eq (show k124 = 1 from y124)) (Nat.le_of_eq (show n124 = 7 from z124))
    obtain ⟨rfl, Nq124, e124⟩ := hQ124
    have N124 : Fr n0 L124 := by rw [l124]; exact Fr.app N123 Nq124
    obtain ⟨cl125, Ar125, qc125, S125, Nn125, H125, G125⟩ := id V122v
    have hin125 : ¬ ((6 : Int32) < 0 ∨ cl125.slots.size ≤ ((6 : Int32)).toNatClampNeg) := inb_of S125 ⟨by decide, by decide⟩
    obtain ⟨T126, h126, X126, e126, W126, st126⟩ := stB X124 hx hZ e124 Ar125 (j := (6 : Int32)) hin125 (g := (mkF m 175 #[.val (.int p1), .val (.long q1), .second, .val (.int (7 : Int32)), .val (.ref b99), .val (.int (((((((0 : Int32) + (own_at q1 (0 : Int32))) + (own_at q1 (1 : Int32))) + (own_at q1 (2 : Int32))) + (own_at q1 (3 : Int32))) + (own_at q1 (4 : Int32))) + (own_at q1 (5 : Int32)))), .unset] [(.int (own_at q1 (6 : Int32))), (.int (6 : Int32)), (.ref b99)])) rfl rfl (hb hby at_175)
    have V126 : Arv Z h126 b99 k99 .byte (7 : Int32) [(.int (own_at q1 (0 : Int32))), (.int (own_at q1 (1 : Int32))), (.int (own_at q1 (2 : Int32))), (.int (own_at q1 (3 : Int32))), (.int (own_at q1 (4 : Int32))), (.int (own_at q1 (5 : Int32))), (.int (nar .byte (own_at q1 (6 : Int32))))] (.int (0 : Int32)) := Arv.set Ar125 qc125 S125 Nn125 H125 G125 (fits_nar_byte _) W126 6 rfl (Nat.le_of_ble_eq_true rfl)
    have V126v : Arv Z h126 b99 k99 .byte (7 : Int32) [(.int (own_at q1 (0 : Int32))), (.int (own_at q1 (1 : Int32))), (.int (own_at q1 (2 : Int32))), (.int (own_at q1 (3 : Int32))), (.int (own_at q1 (4 : Int32))), (.int (own_at q1 (5 : Int32))), (.int (own_at q1 (6 : Int32)))] (.int (0 : Int32)) := by have q := V126; rw [own_nara] at q; exact q
    have K126 : Keep h0 h126 [] := K122.wr W126 (Or.inr sz_b99)
    have N126 := Fr.snoc X126 N124 g_b99
    have Z126 : n0 ≤ h126.size := Nat.le_trans Z122 (Keep.of_wr W126).1
    obtain ⟨_, _, ⟨T127, L127, k127, n127⟩, -, X127, ⟨Lc127, hQ127, l127, y127, z127⟩, st127⟩ := Jvm.LawKit.callS X126 hx (y := (⟨"com/example/assaybus/assaybus/link/FrameChecksumPinLaw", "at", "(JI)B"⟩ : MethodName)) hown (mvT hZ (hw _ (List.mem_of_getElem? (i := 6) rfl))) (mvT hZ (hw _ (List.mem_of_getElem? (i := 7) rfl))) (mvT hZ (hw _ (List.mem_of_getElem? (i := 8) rfl))) (mvT hZ (hw _ (List.mem_of_getElem? (i := 9) rfl))) (by decide) (backOf (W := 1) (own_mat l Z a0 hw [] q1 (6 : Int32)  h126 n0 Z126 ) hZ (hw _ (List.mem_of_getElem? (i := 9) rfl)) (hw _ (List.mem_of_getElem? (i := 8) rfl)) (by decide) (by decide)) (g := (mkF m 181 #[.val (.int p1), .val (.long q1), .second, .val (.int (7 : Int32)), .val (.ref b99), .val (.int (((((((0 : Int32) + (own_at q1 (0 : Int32))) + (own_at q1 (1 : Int32))) + (own_at q1 (2 : Int32))) + (own_at q1 (3 : Int32))) + (own_at q1 (4 : Int32))) + (own_at q1 (5 : Int32)))), .unset] [(.int (6 : Int32)), (.long q1), (.int (((((((0 : Int32) + (own_at q1 (0 : Int32))) + (own_at q1 (1 : Int32))) + (own_at q1 (2 : Int32))) + (own_at q1 (3 : Int32))) + (own_at q1 (4 : Int32))) + (own_at q1 (5 : Int32))))])) rfl (by rw [hml]; rfl) (argsL := [(.long q1), (.int (6 : Int32))]) (rest := [(.int (((((((0 : Int32) + (own_at q1 (0 : Int32))) + (own_at q1 (1 : Int32))) + (own_at q1 (2 : Int32))) + (own_at q1 (3 : Int32))) + (own_at q1 (4 : Int32))) + (own_at q1 (5 : Int32))))]) (lenOf pd__JI_B rfl) rfl (by show 2 * 0 + _ ≤ _; exact Nat.le_of_eq rfl) (hb hby at_181) (fun _ _ => ⟨rfl, e126, (by decide : 1 + 0 ≤ _), (by decide : 7 + 0 ≤ _)⟩)
    dsimp only [Pt.U, Pt.locs, Pt.cells, Pt.slots] at X127 l127 y127 z127 st127 hQ127
    replace X127 := X127.more (Nat.le_of_eq (show k127 = 1 from y127)) (Nat.le_of_eq (show n127 = 7 from z127))
    obtain ⟨rfl, Nq127, e127⟩ := hQ127
    have N127 : Fr n0 L127 := by rw [l127]; exact Fr.app N126 Nq127
    obtain ⟨_, _, ⟨T128, L128, k128, n128⟩, -, X128, ⟨Lc128, hQ128, l128, y128, z128⟩, st128⟩ := Jvm.LawKit.callS X127 hx (y := (⟨"com/example/assaybus/assaybus/link/Frame", "checksum", "([B)I"⟩ : MethodName)) hown (mvT hZ (hw _ (List.mem_of_getElem? (i := 2) rfl))) (mvT hZ (hw _ (List.mem_of_getElem? (i := 3) rfl))) (mvT hZ (hw _ (List.mem_of_getElem? (i := 4) rfl))) (mvT hZ (hw _ (List.mem_of_getElem? (i := 5) rfl))) (by decide) (backOf (W := 0) (own_sumof l Z a0 hw [] b99 k99 (7 : Int32) [(own_at q1 (0 : Int32)), (own_at q1 (1 : Int32)), (own_at q1 (2 : Int32)), (own_at q1 (3 : Int32)), (own_at q1 (4 : Int32)), (own_at q1 (5 : Int32)), (own_at q1 (6 : Int32))] h126 n0 Z126 V126v rfl) hZ (hw _ (List.mem_of_getElem? (i := 5) rfl)) (hw _ (List.mem_of_getElem? (i := 4) rfl)) (by decide) (by decide)) (g := (mkF m 217 #[.val (.int p1), .val (.long q1), .second, .val (.int (7 : Int32)), .val (.ref b99), .val (.int ((((((((0 : Int32) + (own_at q1 (0 : Int32))) + (own_at q1 (1 : Int32))) + (own_at q1 (2 : Int32))) + (own_at q1 (3 : Int32))) + (own_at q1 (4 : Int32))) + (own_at q1 (5 : Int32))) + (own_at q1 (6 : Int32)))), .unset] [(.ref b99)])) rfl (by rw [hml]; rfl) (argsL := [(.ref b99)]) (rest := []) (lenOf pd___B_I rfl) rfl (by show 2 * 0 + _ ≤ _; exact Nat.le_of_eq rfl) (hb hby at_217) (fun _ _ => ⟨rfl, e127, (by decide : 1 + 0 ≤ _), (by decide : 7 + 0 ≤ _)⟩)
    dsimp only [Pt.U, Pt.locs, Pt.cells, Pt.slots] at X128 l128 y128 z128 st128 hQ128
    replace X128 := X128.more (Nat.le_of_eq (show k128 = 1 from y128)) (Nat.le_of_eq (show n128 = 7 from z128))
    obtain ⟨rfl, Nq128, e128⟩ := hQ128
    have N128 : Fr n0 L128 := by rw [l128]; exact Fr.app N127 Nq128
    obtain ⟨fs, hr, hrun, hended, hW, hsame⟩ := X128.leave (v := some (.int (1 : Int32))) (fun h => by rw [Bd.returns] at h; cases h)
    refine ⟨_, _, pre0 _ ?_, hrun, hended, _, _, rfl, ?_, ⟨_, rfl⟩, hW, hsame.mono (by decide) (by decide)⟩
    · show Steps p.tables e below (s₁.setTop (mkF m 0 #[.val (.int p1), .val (.long q1), .second, .unset, .unset, .unset, .unset] [])) _
      refine XS.iloadN X0.here hx rfl (hb hby at_0) rfl ?_
      show Steps p.tables e below (s₁.setTop (mkF m 1 #[.val (.int p1), .val (.long q1), .second, .unset, .unset, .unset, .unset] [(.int p1)])) _
      refine X0.ldcInt hx hown (mvT hZ (hw _ (List.mem_of_getElem? (i := 0) rfl))) (g := (mkF m 1 #[.val (.int p1), .val (.long q1), .second, .unset, .unset, .unset, .unset] [(.int p1)])) rfl (hb hby at_1) _ ?_
      show Steps p.tables e below (s₁.setTop (mkF m 3 #[.val (.int p1), .val (.long q1), .second, .unset, .unset, .unset, .unset] [(.int (2147483647 : Int32)), (.int p1)])) _
      refine XS.iand X0.here hx rfl (hb hby at_3) rfl ?_
      show Steps p.tables e below (s₁.setTop (mkF m 4 #[.val (.int p1), .val (.long q1), .second, .unset, .unset, .unset, .unset] [(.int (p1 &&& (2147483647 : Int32)))])) _
      refine XS.bipush X0.here hx rfl (hb hby at_4) ?_
      show Steps p.tables e below (s₁.setTop (mkF m 6 #[.val (.int p1), .val (.long q1), .second, .unset, .unset, .unset, .unset] [(.int (9 : Int32)), (.int (p1 &&& (2147483647 : Int32)))])) _
      refine iremM X0 hx rfl (hb hby at_6) rfl (by decide) ?_
      show Steps p.tables e below (s₁.setTop (mkF m 7 #[.val (.int p1), .val (.long q1), .second, .unset, .unset, .unset, .unset] [(.int ((p1 &&& (2147483647 : Int32)) % (9 : Int32)))])) _
      rw [hl]
      show Steps p.tables e below (s₁.setTop (mkF m 7 #[.val (.int p1), .val (.long q1), .second, .unset, .unset, .unset, .unset] [(.int (7 : Int32))])) _
      refine XS.istoreN X0.here hx rfl (hb hby at_7) rfl (l' := #[.val (.int p1), .val (.long q1), .second, .val (.int (7 : Int32)), .unset, .unset, .unset]) rfl ?_
      show Steps p.tables e below (s₁.setTop (mkF m 8 #[.val (.int p1), .val (.long q1), .second, .val (.int (7 : Int32)), .unset, .unset, .unset] [])) _
      refine XS.iloadN X0.here hx rfl (hb hby at_8) rfl ?_
      show Steps p.tables e below (s₁.setTop (mkF m 9 #[.val (.int p1), .val (.long q1), .second, .val (.int (7 : Int32)), .unset, .unset, .unset] [(.int (7 : Int32))])) _
      refine st99 _ ?_
      show Steps p.tables e below (T99.setTop (mkF m 11 #[.val (.int p1), .val (.long q1), .second, .val (.int (7 : Int32)), .unset, .unset, .unset] [(.ref b99)])) _
      refine XS.astore X99.here hx rfl (hb hby at_11) rfl rfl (l' := #[.val (.int p1), .val (.long q1), .second, .val (.int (7 : Int32)), .val (.ref b99), .unset, .unset]) rfl ?_
      show Steps p.tables e below (T99.setTop (mkF m 13 #[.val (.int p1), .val (.long q1), .second, .val (.int (7 : Int32)), .val (.ref b99), .unset, .unset] [])) _
      refine XS.iconst X99.here hx rfl (hb hby at_13) ?_
      show Steps p.tables e below (T99.setTop (mkF m 14 #[.val (.int p1), .val (.long q1), .second, .val (.int (7 : Int32)), .val (.ref b99), .unset, .unset] [(.int (0 : Int32))])) _
      refine XS.istore X99.here hx rfl (hb hby at_14) rfl (l' := #[.val (.int p1), .val (.long q1), .second, .val (.int (7 : Int32)), .val (.ref b99), .val (.int (0 : Int32)), .unset]) rfl ?_
      show Steps p.tables e below (T99.setTop (mkF m 16 #[.val (.int p1), .val (.long q1), .second, .val (.int (7 : Int32)), .val (.ref b99), .val (.int (0 : Int32)), .unset] [])) _
      refine XS.iloadN X99.here hx rfl (hb hby at_16) rfl ?_
      show Steps p.tables e below (T99.setTop (mkF m 17 #[.val (.int p1), .val (.long q1), .second, .val (.int (7 : Int32)), .val (.ref b99), .val (.int (0 : Int32)), .unset] [(.int (7 : Int32))])) _
      refine XS.ifNo X99.here hx rfl (hb hby at_17) rfl ((if0 _ _).trans (tlt (by decide : (0 : Int32) < (7 : Int32))).2.2.2) ?_
      show Steps p.tables e below (T99.setTop (mkF m 20 #[.val (.int p1), .val (.long q1), .second, .val (.int (7 : Int32)), .val (.ref b99), .val (.int (0 : Int32)), .unset] [])) _
      refine XS.aload X99.here hx rfl (hb hby at_20) rfl rfl ?_
      show Steps p.tables e below (T99.setTop (mkF m 22 #[.val (.int p1), .val (.long q1), .second, .val (.int (7 : Int32)), .val (.ref b99), .val (.int (0 : Int32)), .unset] [(.ref b99)])) _
      refine XS.iconst X99.here hx rfl (hb hby at_22) ?_
      show Steps p.tables e below (T99.setTop (mkF m 23 #[.val (.int p1), .val (.long q1), .second, .val (.int (7 : Int32)), .val (.ref b99), .val (.int (0 : Int32)), .unset] [(.int (0 : Int32)), (.ref b99)])) _
      refine XS.lloadN X99.here hx rfl (hb hby at_23) rfl ?_
      show Steps p.tables e below (T99.setTop (mkF m 24 #[.val (.int p1), .val (.long q1), .second, .val (.int (7 : Int32)), .val (.ref b99), .val (.int (0 : Int32)), .unset] [(.long q1), (.int (0 : Int32)), (.ref b99)])) _
      refine XS.iconst X99.here hx rfl (hb hby at_24) ?_
      show Steps p.tables e below (T99.setTop (mkF m 25 #[.val (.int p1), .val (.long q1), .second, .val (.int (7 : Int32)), .val (.ref b99), .val (.int (0 : Int32)), .unset] [(.int (0 : Int32)), (.long q1), (.int (0 : Int32)), (.ref b99)])) _
      refine st100 _ ?_
      show Steps p.tables e below (T100.setTop (mkF m 28 #[.val (.int p1), .val (.long q1), .second, .val (.int (7 : Int32)), .val (.ref b99), .val (.int (0 : Int32)), .unset] [(.int (own_at q1 (0 : Int32))), (.int (0 : Int32)), (.ref b99)])) _
      refine st102 _ ?_
      show Steps p.tables e below (T102.setTop (mkF m 29 #[.val (.int p1), .val (.long q1), .second, .val (.int (7 : Int32)), .val (.ref b99), .val (.int (0 : Int32)), .unset] [])) _
      refine XS.iload X102.here hx rfl (hb hby at_29) rfl ?_
      show Steps p.tables e below (T102.setTop (mkF m 31 #[.val (.int p1), .val (.long q1), .second, .val (.int (7 : Int32)), .val (.ref b99), .val (.int (0 : Int32)), .unset] [(.int (0 : Int32))])) _
      refine XS.lloadN X102.here hx rfl (hb hby at_31) rfl ?_
      show Steps p.tables e below (T102.setTop (mkF m 32 #[.val (.int p1), .val (.long q1), .second, .val (.int (7 : Int32)), .val (.ref b99), .val (.int (0 : Int32)), .unset] [(.long q1), (.int (0 : Int32))])) _
      refine XS.iconst X102.here hx rfl (hb hby at_32) ?_
      show Steps p.tables e below (T102.setTop (mkF m 33 #[.val (.int p1), .val (.long q1), .second, .val (.int (7 : Int32)), .val (.ref b99), .val (.int (0 : Int32)), .unset] [(.int (0 : Int32)), (.long q1), (.int (0 : Int32))])) _
      refine st103 _ ?_
      show Steps p.tables e below (T103.setTop (mkF m 36 #[.val (.int p1), .val (.long q1), .second, .val (.int (7 : Int32)), .val (.ref b99), .val (.int (0 : Int32)), .unset] [(.int (own_at q1 (0 : Int32))), (.int (0 : Int32))])) _
      refine XS.iadd X103.here hx rfl (hb hby at_36) rfl ?_
      show Steps p.tables e below (T103.setTop (mkF m 37 #[.val (.int p1), .val (.long q1), .second, .val (.int (7 : Int32)), .val (.ref b99), .val (.int (0 : Int32)), .unset] [(.int ((0 : Int32) + (own_at q1 (0 : Int32))))])) _
      refine XS.istore X103.here hx rfl (hb hby at_37) rfl (l' := #[.val (.int p1), .val (.long q1), .second, .val (.int (7 : Int32)), .val (.ref b99), .val (.int ((0 : Int32) + (own_at q1 (0 : Int32)))), .unset]) rfl ?_
      show Steps p.tables e below (T103.setTop (mkF m 39 #[.val (.int p1), .val (.long q1), .second, .val (.int (7 : Int32)), .val (.ref b99), .val (.int ((0 : Int32) + (own_at q1 (0 : Int32)))), .unset] [])) _
      refine XS.iloadN X103.here hx rfl (hb hby at_39) rfl ?_
      show Steps p.tables e below (T103.setTop (mkF m 40 #[.val (.int p1), .val (.long q1), .second, .val (.int (7 : Int32)), .val (.ref b99), .val (.int ((0 : Int32) + (own_at q1 (0 : Int32)))), .unset] [(.int (7 : Int32))])) _
      refine XS.iconst X103.here hx rfl (hb hby at_40) ?_
      show Steps p.tables e below (T103.setTop (mkF m 41 #[.val (.int p1), .val (.long q1), .second, .val (.int (7 : Int32)), .val (.ref b99), .val (.int ((0 : Int32) + (own_at q1 (0 : Int32)))), .unset] [(.int (1 : Int32)), (.int (7 : Int32))])) _
      refine XS.icmpNo X103.here hx rfl (hb hby at_41) rfl (tlt (by decide : (1 : Int32) < (7 : Int32))).2.2.2 ?_
      show Steps p.tables e below (T103.setTop (mkF m 44 #[.val (.int p1), .val (.long q1), .second, .val (.int (7 : Int32)), .val (.ref b99), .val (.int ((0 : Int32) + (own_at q1 (0 : Int32)))), .unset] [])) _
      refine XS.aload X103.here hx rfl (hb hby at_44) rfl rfl ?_
      show Steps p.tables e below (T103.setTop (mkF m 46 #[.val (.int p1), .val (.long q1), .second, .val (.int (7 : Int32)), .val (.ref b99), .val (.int ((0 : Int32) + (own_at q1 (0 : Int32)))), .unset] [(.ref b99)])) _
      refine XS.iconst X103.here hx rfl (hb hby at_46) ?_
      show Steps p.tables e below (T103.setTop (mkF m 47 #[.val (.int p1), .val (.long q1), .second, .val (.int (7 : Int32)), .val (.ref b99), .val (.int ((0 : Int32) + (own_at q1 (0 : Int32)))), .unset] [(.int (1 : Int32)), (.ref b99)])) _
      refine XS.lloadN X103.here hx rfl (hb hby at_47) rfl ?_
      show Steps p.tables e below (T103.setTop (mkF m 48 #[.val (.int p1), .val (.long q1), .second, .val (.int (7 : Int32)), .val (.ref b99), .val (.int ((0 : Int32) + (own_at q1 (0 : Int32)))), .unset] [(.long q1), (.int (1 : Int32)), (.ref b99)])) _
      refine XS.iconst X103.here hx rfl (hb hby at_48) ?_
      show Steps p.tables e below (T103.setTop (mkF m 49 #[.val (.int p1), .val (.long q1), .second, .val (.int (7 : Int32)), .val (.ref b99), .val (.int ((0 : Int32) + (own_at q1 (0 : Int32)))), .unset] [(.int (1 : Int32)), (.long q1), (.int (1 : Int32)), (.ref b99)])) _
      refine st104 _ ?_
      show Steps p.tables e below (T104.setTop (mkF m 52 #[.val (.int p1), .val (.long q1), .second, .val (.int (7 : Int32)), .val (.ref b99), .val (.int ((0 : Int32) + (own_at q1 (0 : Int32)))), .unset] [(.int (own_at q1 (1 : Int32))), (.int (1 : Int32)), (.ref b99)])) _
      refine st106 _ ?_
      show Steps p.tables e below (T106.setTop (mkF m 53 #[.val (.int p1), .val (.long q1), .second, .val (.int (7 : Int32)), .val (.ref b99), .val (.int ((0 : Int32) + (own_at q1 (0 : Int32)))), .unset] [])) _
      refine XS.iload X106.here hx rfl (hb hby at_53) rfl ?_
      show Steps p.tables e below (T106.setTop (mkF m 55 #[.val (.int p1), .val (.long q1), .second, .val (.int (7 : Int32)), .val (.ref b99), .val (.int ((0 : Int32) + (own_at q1 (0 : Int32)))), .unset] [(.int ((0 : Int32) + (own_at q1 (0 : Int32))))])) _
      refine XS.lloadN X106.here hx rfl (hb hby at_55) rfl ?_
      show Steps p.tables e below (T106.setTop (mkF m 56 #[.val (.int p1), .val (.long q1), .second, .val (.int (7 : Int32)), .val (.ref b99), .val (.int ((0 : Int32) + (own_at q1 (0 : Int32)))), .unset] [(.long q1), (.int ((0 : Int32) + (own_at q1 (0 : Int32))))])) _
      refine XS.iconst X106.here hx rfl (hb hby at_56) ?_
      show Steps p.tables e below (T106.setTop (mkF m 57 #[.val (.int p1), .val (.long q1), .second, .val (.int (7 : Int32)), .val (.ref b99), .val (.int ((0 : Int32) + (own_at q1 (0 : Int32)))), .unset] [(.int (1 : Int32)), (.long q1), (.int ((0 : Int32) + (own_at q1 (0 : Int32))))])) _
      refine st107 _ ?_
      show Steps p.tables e below (T107.setTop (mkF m 60 #[.val (.int p1), .val (.long q1), .second, .val (.int (7 : Int32)), .val (.ref b99), .val (.int ((0 : Int32) + (own_at q1 (0 : Int32)))), .unset] [(.int (own_at q1 (1 : Int32))), (.int ((0 : Int32) + (own_at q1 (0 : Int32))))])) _
      refine XS.iadd X107.here hx rfl (hb hby at_60) rfl ?_
      show Steps p.tables e below (T107.setTop (mkF m 61 #[.val (.int p1), .val (.long q1), .second, .val (.int (7 : Int32)), .val (.ref b99), .val (.int ((0 : Int32) + (own_at q1 (0 : Int32)))), .unset] [(.int (((0 : Int32) + (own_at q1 (0 : Int32))) + (own_at q1 (1 : Int32))))])) _
      refine XS.istore X107.here hx rfl (hb hby at_61) rfl (l' := #[.val (.int p1), .val (.long q1), .second, .val (.int (7 : Int32)), .val (.ref b99), .val (.int (((0 : Int32) + (own_at q1 (0 : Int32))) + (own_at q1 (1 : Int32)))), .unset]) rfl ?_
      show Steps p.tables e below (T107.setTop (mkF m 63 #[.val (.int p1), .val (.long q1), .second, .val (.int (7 : Int32)), .val (.ref b99), .val (.int (((0 : Int32) + (own_at q1 (0 : Int32))) + (own_at q1 (1 : Int32)))), .unset] [])) _
      refine XS.iloadN X107.here hx rfl (hb hby at_63) rfl ?_
      show Steps p.tables e below (T107.setTop (mkF m 64 #[.val (.int p1), .val (.long q1), .second, .val (.int (7 : Int32)), .val (.ref b99), .val (.int (((0 : Int32) + (own_at q1 (0 : Int32))) + (own_at q1 (1 : Int32)))), .unset] [(.int (7 : Int32))])) _
      refine XS.iconst X107.here hx rfl (hb hby at_64) ?_
      show Steps p.tables e below (T107.setTop (mkF m 65 #[.val (.int p1), .val (.long q1), .second, .val (.int (7 : Int32)), .val (.ref b99), .val (.int (((0 : Int32) + (own_at q1 (0 : Int32))) + (own_at q1 (1 : Int32)))), .unset] [(.int (2 : Int32)), (.int (7 : Int32))])) _
      refine XS.icmpNo X107.here hx rfl (hb hby at_65) rfl (tlt (by decide : (2 : Int32) < (7 : Int32))).2.2.2 ?_
      show Steps p.tables e below (T107.setTop (mkF m 68 #[.val (.int p1), .val (.long q1), .second, .val (.int (7 : Int32)), .val (.ref b99), .val (.int (((0 : Int32) + (own_at q1 (0 : Int32))) + (own_at q1 (1 : Int32)))), .unset] [])) _
      refine XS.aload X107.here hx rfl (hb hby at_68) rfl rfl ?_
      show Steps p.tables e below (T107.setTop (mkF m 70 #[.val (.int p1), .val (.long q1), .second, .val (.int (7 : Int32)), .val (.ref b99), .val (.int (((0 : Int32) + (own_at q1 (0 : Int32))) + (own_at q1 (1 : Int32)))), .unset] [(.ref b99)])) _
      refine XS.iconst X107.here hx rfl (hb hby at_70) ?_
      show Steps p.tables e below (T107.setTop (mkF m 71 #[.val (.int p1), .val (.long q1), .second, .val (.int (7 : Int32)), .val (.ref b99), .val (.int (((0 : Int32) + (own_at q1 (0 : Int32))) + (own_at q1 (1 : Int32)))), .unset] [(.int (2 : Int32)), (.ref b99)])) _
      refine XS.lloadN X107.here hx rfl (hb hby at_71) rfl ?_
      show Steps p.tables e below (T107.setTop (mkF m 72 #[.val (.int p1), .val (.long q1), .second, .val (.int (7 : Int32)), .val (.ref b99), .val (.int (((0 : Int32) + (own_at q1 (0 : Int32))) + (own_at q1 (1 : Int32)))), .unset] [(.long q1), (.int (2 : Int32)), (.ref b99)])) _
      refine XS.iconst X107.here hx rfl (hb hby at_72) ?_
      show Steps p.tables e below (T107.setTop (mkF m 73 #[.val (.int p1), .val (.long q1), .second, .val (.int (7 : Int32)), .val (.ref b99), .val (.int (((0 : Int32) + (own_at q1 (0 : Int32))) + (own_at q1 (1 : Int32)))), .unset] [(.int (2 : Int32)), (.long q1), (.int (2 : Int32)), (.ref b99)])) _
      refine st108 _ ?_
      show Steps p.tables e below (T108.setTop (mkF m 76 #[.val (.int p1), .val (.long q1), .second, .val (.int (7 : Int32)), .val (.ref b99), .val (.int (((0 : Int32) + (own_at q1 (0 : Int32))) + (own_at q1 (1 : Int32)))), .unset] [(.int (own_at q1 (2 : Int32))), (.int (2 : Int32)), (.ref b99)])) _
      refine st110 _ ?_
      show Steps p.tables e below (T110.setTop (mkF m 77 #[.val (.int p1), .val (.long q1), .second, .val (.int (7 : Int32)), .val (.ref b99), .val (.int (((0 : Int32) + (own_at q1 (0 : Int32))) + (own_at q1 (1 : Int32)))), .unset] [])) _
      refine XS.iload X110.here hx rfl (hb hby at_77) rfl ?_
      show Steps p.tables e below (T110.setTop (mkF m 79 #[.val (.int p1), .val (.long q1), .second, .val (.int (7 : Int32)), .val (.ref b99), .val (.int (((0 : Int32) + (own_at q1 (0 : Int32))) + (own_at q1 (1 : Int32)))), .unset] [(.int (((0 : Int32) + (own_at q1 (0 : Int32))) + (own_at q1 (1 : Int32))))])) _
      refine XS.lloadN X110.here hx rfl (hb hby at_79) rfl ?_
      show Steps p.tables e below (T110.setTop (mkF m 80 #[.val (.int p1), .val (.long q1), .second, .val (.int (7 : Int32)), .val (.ref b99), .val (.int (((0 : Int32) + (own_at q1 (0 : Int32))) + (own_at q1 (1 : Int32)))), .unset] [(.long q1), (.int (((0 : Int32) + (own_at q1 (0 : Int32))) + (own_at q1 (1 : Int32))))])) _
      refine XS.iconst X110.here hx rfl (hb hby at_80) ?_
      show Steps p.tables e below (T110.setTop (mkF m 81 #[.val (.int p1), .val (.long q1), .second, .val (.int (7 : Int32)), .val (.ref b99), .val (.int (((0 : Int32) + (own_at q1 (0 : Int32))) + (own_at q1 (1 : Int32)))), .unset] [(.int (2 : Int32)), (.long q1), (.int (((0 : Int32) + (own_at q1 (0 : Int32))) + (own_at q1 (1 : Int32))))])) _
      refine st111 _ ?_
      show Steps p.tables e below (T111.setTop (mkF m 84 #[.val (.int p1), .val (.long q1), .second, .val (.int (7 : Int32)), .val (.ref b99), .val (.int (((0 : Int32) + (own_at q1 (0 : Int32))) + (own_at q1 (1 : Int32)))), .unset] [(.int (own_at q1 (2 : Int32))), (.int (((0 : Int32) + (own_at q1 (0 : Int32))) + (own_at q1 (1 : Int32))))])) _
      refine XS.iadd X111.here hx rfl (hb hby at_84) rfl ?_
      show Steps p.tables e below (T111.setTop (mkF m 85 #[.val (.int p1), .val (.long q1), .second, .val (.int (7 : Int32)), .val (.ref b99), .val (.int (((0 : Int32) + (own_at q1 (0 : Int32))) + (own_at q1 (1 : Int32)))), .unset] [(.int ((((0 : Int32) + (own_at q1 (0 : Int32))) + (own_at q1 (1 : Int32))) + (own_at q1 (2 : Int32))))])) _
      refine XS.istore X111.here hx rfl (hb hby at_85) rfl (l' := #[.val (.int p1), .val (.long q1), .second, .val (.int (7 : Int32)), .val (.ref b99), .val (.int ((((0 : Int32) + (own_at q1 (0 : Int32))) + (own_at q1 (1 : Int32))) + (own_at q1 (2 : Int32)))), .unset]) rfl ?_
      show Steps p.tables e below (T111.setTop (mkF m 87 #[.val (.int p1), .val (.long q1), .second, .val (.int (7 : Int32)), .val (.ref b99), .val (.int ((((0 : Int32) + (own_at q1 (0 : Int32))) + (own_at q1 (1 : Int32))) + (own_at q1 (2 : Int32)))), .unset] [])) _
      refine XS.iloadN X111.here hx rfl (hb hby at_87) rfl ?_
      show Steps p.tables e below (T111.setTop (mkF m 88 #[.val (.int p1), .val (.long q1), .second, .val (.int (7 : Int32)), .val (.ref b99), .val (.int ((((0 : Int32) + (own_at q1 (0 : Int32))) + (own_at q1 (1 : Int32))) + (own_at q1 (2 : Int32)))), .unset] [(.int (7 : Int32))])) _
      refine XS.iconst X111.here hx rfl (hb hby at_88) ?_
      show Steps p.tables e below (T111.setTop (mkF m 89 #[.val (.int p1), .val (.long q1), .second, .val (.int (7 : Int32)), .val (.ref b99), .val (.int ((((0 : Int32) + (own_at q1 (0 : Int32))) + (own_at q1 (1 : Int32))) + (own_at q1 (2 : Int32)))), .unset] [(.int (3 : Int32)), (.int (7 : Int32))])) _
      refine XS.icmpNo X111.here hx rfl (hb hby at_89) rfl (tlt (by decide : (3 : Int32) < (7 : Int32))).2.2.2 ?_
      show Steps p.tables e below (T111.setTop (mkF m 92 #[.val (.int p1), .val (.long q1), .second, .val (.int (7 : Int32)), .val (.ref b99), .val (.int ((((0 : Int32) + (own_at q1 (0 : Int32))) + (own_at q1 (1 : Int32))) + (own_at q1 (2 : Int32)))), .unset] [])) _
      refine XS.aload X111.here hx rfl (hb hby at_92) rfl rfl ?_
      show Steps p.tables e below (T111.setTop (mkF m 94 #[.val (.int p1), .val (.long q1), .second, .val (.int (7 : Int32)), .val (.ref b99), .val (.int ((((0 : Int32) + (own_at q1 (0 : Int32))) + (own_at q1 (1 : Int32))) + (own_at q1 (2 : Int32)))), .unset] [(.ref b99)])) _
      refine XS.iconst X111.here hx rfl (hb hby at_94) ?_
      show Steps p.tables e below (T111.setTop (mkF m 95 #[.val (.int p1), .val (.long q1), .second, .val (.int (7 : Int32)), .val (.ref b99), .val (.int ((((0 : Int32) + (own_at q1 (0 : Int32))) + (own_at q1 (1 : Int32))) + (own_at q1 (2 : Int32)))), .unset] [(.int (3 : Int32)), (.ref b99)])) _
      refine XS.lloadN X111.here hx rfl (hb hby at_95) rfl ?_
      show Steps p.tables e below (T111.setTop (mkF m 96 #[.val (.int p1), .val (.long q1), .second, .val (.int (7 : Int32)), .val (.ref b99), .val (.int ((((0 : Int32) + (own_at q1 (0 : Int32))) + (own_at q1 (1 : Int32))) + (own_at q1 (2 : Int32)))), .unset] [(.long q1), (.int (3 : Int32)), (.ref b99)])) _
      refine XS.iconst X111.here hx rfl (hb hby at_96) ?_
      show Steps p.tables e below (T111.setTop (mkF m 97 #[.val (.int p1), .val (.long q1), .second, .val (.int (7 : Int32)), .val (.ref b99), .val (.int ((((0 : Int32) + (own_at q1 (0 : Int32))) + (own_at q1 (1 : Int32))) + (own_at q1 (2 : Int32)))), .unset] [(.int (3 : Int32)), (.long q1), (.int (3 : Int32)), (.ref b99)])) _
      refine st112 _ ?_
      show Steps p.tables e below (T112.setTop (mkF m 100 #[.val (.int p1), .val (.long q1), .second, .val (.int (7 : Int32)), .val (.ref b99), .val (.int ((((0 : Int32) + (own_at q1 (0 : Int32))) + (own_at q1 (1 : Int32))) + (own_at q1 (2 : Int32)))), .unset] [(.int (own_at q1 (3 : Int32))), (.int (3 : Int32)), (.ref b99)])) _
      refine st114 _ ?_
      show Steps p.tables e below (T114.setTop (mkF m 101 #[.val (.int p1), .val (.long q1), .second, .val (.int (7 : Int32)), .val (.ref b99), .val (.int ((((0 : Int32) + (own_at q1 (0 : Int32))) + (own_at q1 (1 : Int32))) + (own_at q1 (2 : Int32)))), .unset] [])) _
      refine XS.iload X114.here hx rfl (hb hby at_101) rfl ?_
      show Steps p.tables e below (T114.setTop (mkF m 103 #[.val (.int p1), .val (.long q1), .second, .val (.int (7 : Int32)), .val (.ref b99), .val (.int ((((0 : Int32) + (own_at q1 (0 : Int32))) + (own_at q1 (1 : Int32))) + (own_at q1 (2 : Int32)))), .unset] [(.int ((((0 : Int32) + (own_at q1 (0 : Int32))) + (own_at q1 (1 : Int32))) + (own_at q1 (2 : Int32))))])) _
      refine XS.lloadN X114.here hx rfl (hb hby at_103) rfl ?_
      show Steps p.tables e below (T114.setTop (mkF m 104 #[.val (.int p1), .val (.long q1), .second, .val (.int (7 : Int32)), .val (.ref b99), .val (.int ((((0 : Int32) + (own_at q1 (0 : Int32))) + (own_at q1 (1 : Int32))) + (own_at q1 (2 : Int32)))), .unset] [(.long q1), (.int ((((0 : Int32) + (own_at q1 (0 : Int32))) + (own_at q1 (1 : Int32))) + (own_at q1 (2 : Int32))))])) _
      refine XS.iconst X114.here hx rfl (hb hby at_104) ?_
      show Steps p.tables e below (T114.setTop (mkF m 105 #[.val (.int p1), .val (.long q1), .second, .val (.int (7 : Int32)), .val (.ref b99), .val (.int ((((0 : Int32) + (own_at q1 (0 : Int32))) + (own_at q1 (1 : Int32))) + (own_at q1 (2 : Int32)))), .unset] [(.int (3 : Int32)), (.long q1), (.int ((((0 : Int32) + (own_at q1 (0 : Int32))) + (own_at q1 (1 : Int32))) + (own_at q1 (2 : Int32))))])) _
      refine st115 _ ?_
      show Steps p.tables e below (T115.setTop (mkF m 108 #[.val (.int p1), .val (.long q1), .second, .val (.int (7 : Int32)), .val (.ref b99), .val (.int ((((0 : Int32) + (own_at q1 (0 : Int32))) + (own_at q1 (1 : Int32))) + (own_at q1 (2 : Int32)))), .unset] [(.int (own_at q1 (3 : Int32))), (.int ((((0 : Int32) + (own_at q1 (0 : Int32))) + (own_at q1 (1 : Int32))) + (own_at q1 (2 : Int32))))])) _
      refine XS.iadd X115.here hx rfl (hb hby at_108) rfl ?_
      show Steps p.tables e below (T115.setTop (mkF m 109 #[.val (.int p1), .val (.long q1), .second, .val (.int (7 : Int32)), .val (.ref b99), .val (.int ((((0 : Int32) + (own_at q1 (0 : Int32))) + (own_at q1 (1 : Int32))) + (own_at q1 (2 : Int32)))), .unset] [(.int (((((0 : Int32) + (own_at q1 (0 : Int32))) + (own_at q1 (1 : Int32))) + (own_at q1 (2 : Int32))) + (own_at q1 (3 : Int32))))])) _
      refine XS.istore X115.here hx rfl (hb hby at_109) rfl (l' := #[.val (.int p1), .val (.long q1), .second, .val (.int (7 : Int32)), .val (.ref b99), .val (.int (((((0 : Int32) + (own_at q1 (0 : Int32))) + (own_at q1 (1 : Int32))) + (own_at q1 (2 : Int32))) + (own_at q1 (3 : Int32)))), .unset]) rfl ?_
      show Steps p.tables e below (T115.setTop (mkF m 111 #[.val (.int p1), .val (.long q1), .second, .val (.int (7 : Int32)), .val (.ref b99), .val (.int (((((0 : Int32) + (own_at q1 (0 : Int32))) + (own_at q1 (1 : Int32))) + (own_at q1 (2 : Int32))) + (own_at q1 (3 : Int32)))), .unset] [])) _
      refine XS.iloadN X115.here hx rfl (hb hby at_111) rfl ?_
      show Steps p.tables e below (T115.setTop (mkF m 112 #[.val (.int p1), .val (.long q1), .second, .val (.int (7 : Int32)), .val (.ref b99), .val (.int (((((0 : Int32) + (own_at q1 (0 : Int32))) + (own_at q1 (1 : Int32))) + (own_at q1 (2 : Int32))) + (own_at q1 (3 : Int32)))), .unset] [(.int (7 : Int32))])) _
      refine XS.iconst X115.here hx rfl (hb hby at_112) ?_
      show Steps p.tables e below (T115.setTop (mkF m 113 #[.val (.int p1), .val (.long q1), .second, .val (.int (7 : Int32)), .val (.ref b99), .val (.int (((((0 : Int32) + (own_at q1 (0 : Int32))) + (own_at q1 (1 : Int32))) + (own_at q1 (2 : Int32))) + (own_at q1 (3 : Int32)))), .unset] [(.int (4 : Int32)), (.int (7 : Int32))])) _
      refine XS.icmpNo X115.here hx rfl (hb hby at_113) rfl (tlt (by decide : (4 : Int32) < (7 : Int32))).2.2.2 ?_
      show Steps p.tables e below (T115.setTop (mkF m 116 #[.val (.int p1), .val (.long q1), .second, .val (.int (7 : Int32)), .val (.ref b99), .val (.int (((((0 : Int32) + (own_at q1 (0 : Int32))) + (own_at q1 (1 : Int32))) + (own_at q1 (2 : Int32))) + (own_at q1 (3 : Int32)))), .unset] [])) _
      refine XS.aload X115.here hx rfl (hb hby at_116) rfl rfl ?_
      show Steps p.tables e below (T115.setTop (mkF m 118 #[.val (.int p1), .val (.long q1), .second, .val (.int (7 : Int32)), .val (.ref b99), .val (.int (((((0 : Int32) + (own_at q1 (0 : Int32))) + (own_at q1 (1 : Int32))) + (own_at q1 (2 : Int32))) + (own_at q1 (3 : Int32)))), .unset] [(.ref b99)])) _
      refine XS.iconst X115.here hx rfl (hb hby at_118) ?_
      show Steps p.tables e below (T115.setTop (mkF m 119 #[.val (.int p1), .val (.long q1), .second, .val (.int (7 : Int32)), .val (.ref b99), .val (.int (((((0 : Int32) + (own_at q1 (0 : Int32))) + (own_at q1 (1 : Int32))) + (own_at q1 (2 : Int32))) + (own_at q1 (3 : Int32)))), .unset] [(.int (4 : Int32)), (.ref b99)])) _
      refine XS.lloadN X115.here hx rfl (hb hby at_119) rfl ?_
      show Steps p.tables e below (T115.setTop (mkF m 120 #[.val (.int p1), .val (.long q1), .second, .val (.int (7 : Int32)), .val (.ref b99), .val (.int (((((0 : Int32) + (own_at q1 (0 : Int32))) + (own_at q1 (1 : Int32))) + (own_at q1 (2 : Int32))) + (own_at q1 (3 : Int32)))), .unset] [(.long q1), (.int (4 : Int32)), (.ref b99)])) _
      refine XS.iconst X115.here hx rfl (hb hby at_120) ?_
      show Steps p.tables e below (T115.setTop (mkF m 121 #[.val (.int p1), .val (.long q1), .second, .val (.int (7 : Int32)), .val (.ref b99), .val (.int (((((0 : Int32) + (own_at q1 (0 : Int32))) + (own_at q1 (1 : Int32))) + (own_at q1 (2 : Int32))) + (own_at q1 (3 : Int32)))), .unset] [(.int (4 : Int32)), (.long q1), (.int (4 : Int32)), (.ref b99)])) _
      refine st116 _ ?_
      show Steps p.tables e below (T116.setTop (mkF m 124 #[.val (.int p1), .val (.long q1), .second, .val (.int (7 : Int32)), .val (.ref b99), .val (.int (((((0 : Int32) + (own_at q1 (0 : Int32))) + (own_at q1 (1 : Int32))) + (own_at q1 (2 : Int32))) + (own_at q1 (3 : Int32)))), .unset] [(.int (own_at q1 (4 : Int32))), (.int (4 : Int32)), (.ref b99)])) _
      refine st118 _ ?_
      show Steps p.tables e below (T118.setTop (mkF m 125 #[.val (.int p1), .val (.long q1), .second, .val (.int (7 : Int32)), .val (.ref b99), .val (.int (((((0 : Int32) + (own_at q1 (0 : Int32))) + (own_at q1 (1 : Int32))) + (own_at q1 (2 : Int32))) + (own_at q1 (3 : Int32)))), .unset] [])) _
      refine XS.iload X118.here hx rfl (hb hby at_125) rfl ?_
      show Steps p.tables e below (T118.setTop (mkF m 127 #[.val (.int p1), .val (.long q1), .second, .val (.int (7 : Int32)), .val (.ref b99), .val (.int (((((0 : Int32) + (own_at q1 (0 : Int32))) + (own_at q1 (1 : Int32))) + (own_at q1 (2 : Int32))) + (own_at q1 (3 : Int32)))), .unset] [(.int (((((0 : Int32) + (own_at q1 (0 : Int32))) + (own_at q1 (1 : Int32))) + (own_at q1 (2 : Int32))) + (own_at q1 (3 : Int32))))])) _
      refine XS.lloadN X118.here hx rfl (hb hby at_127) rfl ?_
      show Steps p.tables e below (T118.setTop (mkF m 128 #[.val (.int p1), .val (.long q1), .second, .val (.int (7 : Int32)), .val (.ref b99), .val (.int (((((0 : Int32) + (own_at q1 (0 : Int32))) + (own_at q1 (1 : Int32))) + (own_at q1 (2 : Int32))) + (own_at q1 (3 : Int32)))), .unset] [(.long q1), (.int (((((0 : Int32) + (own_at q1 (0 : Int32))) + (own_at q1 (1 : Int32))) + (own_at q1 (2 : Int32))) + (own_at q1 (3 : Int32))))])) _
      refine XS.iconst X118.here hx rfl (hb hby at_128) ?_
      show Steps p.tables e below (T118.setTop (mkF m 129 #[.val (.int p1), .val (.long q1), .second, .val (.int (7 : Int32)), .val (.ref b99), .val (.int (((((0 : Int32) + (own_at q1 (0 : Int32))) + (own_at q1 (1 : Int32))) + (own_at q1 (2 : Int32))) + (own_at q1 (3 : Int32)))), .unset] [(.int (4 : Int32)), (.long q1), (.int (((((0 : Int32) + (own_at q1 (0 : Int32))) + (own_at q1 (1 : Int32))) + (own_at q1 (2 : Int32))) + (own_at q1 (3 : Int32))))])) _
      refine st119 _ ?_
      show Steps p.tables e below (T119.setTop (mkF m 132 #[.val (.int p1), .val (.long q1), .second, .val (.int (7 : Int32)), .val (.ref b99), .val (.int (((((0 : Int32) + (own_at q1 (0 : Int32))) + (own_at q1 (1 : Int32))) + (own_at q1 (2 : Int32))) + (own_at q1 (3 : Int32)))), .unset] [(.int (own_at q1 (4 : Int32))), (.int (((((0 : Int32) + (own_at q1 (0 : Int32))) + (own_at q1 (1 : Int32))) + (own_at q1 (2 : Int32))) + (own_at q1 (3 : Int32))))])) _
      refine XS.iadd X119.here hx rfl (hb hby at_132) rfl ?_
      show Steps p.tables e below (T119.setTop (mkF m 133 #[.val (.int p1), .val (.long q1), .second, .val (.int (7 : Int32)), .val (.ref b99), .val (.int (((((0 : Int32) + (own_at q1 (0 : Int32))) + (own_at q1 (1 : Int32))) + (own_at q1 (2 : Int32))) + (own_at q1 (3 : Int32)))), .unset] [(.int ((((((0 : Int32) + (own_at q1 (0 : Int32))) + (own_at q1 (1 : Int32))) + (own_at q1 (2 : Int32))) + (own_at q1 (3 : Int32))) + (own_at q1 (4 : Int32))))])) _
      refine XS.istore X119.here hx rfl (hb hby at_133) rfl (l' := #[.val (.int p1), .val (.long q1), .second, .val (.int (7 : Int32)), .val (.ref b99), .val (.int ((((((0 : Int32) + (own_at q1 (0 : Int32))) + (own_at q1 (1 : Int32))) + (own_at q1 (2 : Int32))) + (own_at q1 (3 : Int32))) + (own_at q1 (4 : Int32)))), .unset]) rfl ?_
      show Steps p.tables e below (T119.setTop (mkF m 135 #[.val (.int p1), .val (.long q1), .second, .val (.int (7 : Int32)), .val (.ref b99), .val (.int ((((((0 : Int32) + (own_at q1 (0 : Int32))) + (own_at q1 (1 : Int32))) + (own_at q1 (2 : Int32))) + (own_at q1 (3 : Int32))) + (own_at q1 (4 : Int32)))), .unset] [])) _
      refine XS.iloadN X119.here hx rfl (hb hby at_135) rfl ?_
      show Steps p.tables e below (T119.setTop (mkF m 136 #[.val (.int p1), .val (.long q1), .second, .val (.int (7 : Int32)), .val (.ref b99), .val (.int ((((((0 : Int32) + (own_at q1 (0 : Int32))) + (own_at q1 (1 : Int32))) + (own_at q1 (2 : Int32))) + (own_at q1 (3 : Int32))) + (own_at q1 (4 : Int32)))), .unset] [(.int (7 : Int32))])) _
      refine XS.iconst X119.here hx rfl (hb hby at_136) ?_
      show Steps p.tables e below (T119.setTop (mkF m 137 #[.val (.int p1), .val (.long q1), .second, .val (.int (7 : Int32)), .val (.ref b99), .val (.int ((((((0 : Int32) + (own_at q1 (0 : Int32))) + (own_at q1 (1 : Int32))) + (own_at q1 (2 : Int32))) + (own_at q1 (3 : Int32))) + (own_at q1 (4 : Int32)))), .unset] [(.int (5 : Int32)), (.int (7 : Int32))])) _
      refine XS.icmpNo X119.here hx rfl (hb hby at_137) rfl (tlt (by decide : (5 : Int32) < (7 : Int32))).2.2.2 ?_
      show Steps p.tables e below (T119.setTop (mkF m 140 #[.val (.int p1), .val (.long q1), .second, .val (.int (7 : Int32)), .val (.ref b99), .val (.int ((((((0 : Int32) + (own_at q1 (0 : Int32))) + (own_at q1 (1 : Int32))) + (own_at q1 (2 : Int32))) + (own_at q1 (3 : Int32))) + (own_at q1 (4 : Int32)))), .unset] [])) _
      refine XS.aload X119.here hx rfl (hb hby at_140) rfl rfl ?_
      show Steps p.tables e below (T119.setTop (mkF m 142 #[.val (.int p1), .val (.long q1), .second, .val (.int (7 : Int32)), .val (.ref b99), .val (.int ((((((0 : Int32) + (own_at q1 (0 : Int32))) + (own_at q1 (1 : Int32))) + (own_at q1 (2 : Int32))) + (own_at q1 (3 : Int32))) + (own_at q1 (4 : Int32)))), .unset] [(.ref b99)])) _
      refine XS.iconst X119.here hx rfl (hb hby at_142) ?_
      show Steps p.tables e below (T119.setTop (mkF m 143 #[.val (.int p1), .val (.long q1), .second, .val (.int (7 : Int32)), .val (.ref b99), .val (.int ((((((0 : Int32) + (own_at q1 (0 : Int32))) + (own_at q1 (1 : Int32))) + (own_at q1 (2 : Int32))) + (own_at q1 (3 : Int32))) + (own_at q1 (4 : Int32)))), .unset] [(.int (5 : Int32)), (.ref b99)])) _
      refine XS.lloadN X119.here hx rfl (hb hby at_143) rfl ?_
      show Steps p.tables e below (T119.setTop (mkF m 144 #[.val (.int p1), .val (.long q1), .second, .val (.int (7 : Int32)), .val (.ref b99), .val (.int ((((((0 : Int32) + (own_at q1 (0 : Int32))) + (own_at q1 (1 : Int32))) + (own_at q1 (2 : Int32))) + (own_at q1 (3 : Int32))) + (own_at q1 (4 : Int32)))), .unset] [(.long q1), (.int (5 : Int32)), (.ref b99)])) _
      refine XS.iconst X119.here hx rfl (hb hby at_144) ?_
      show Steps p.tables e below (T119.setTop (mkF m 145 #[.val (.int p1), .val (.long q1), .second, .val (.int (7 : Int32)), .val (.ref b99), .val (.int ((((((0 : Int32) + (own_at q1 (0 : Int32))) + (own_at q1 (1 : Int32))) + (own_at q1 (2 : Int32))) + (own_at q1 (3 : Int32))) + (own_at q1 (4 : Int32)))), .unset] [(.int (5 : Int32)), (.long q1), (.int (5 : Int32)), (.ref b99)])) _
      refine st120 _ ?_
      show Steps p.tables e below (T120.setTop (mkF m 148 #[.val (.int p1), .val (.long q1), .second, .val (.int (7 : Int32)), .val (.ref b99), .val (.int ((((((0 : Int32) + (own_at q1 (0 : Int32))) + (own_at q1 (1 : Int32))) + (own_at q1 (2 : Int32))) + (own_at q1 (3 : Int32))) + (own_at q1 (4 : Int32)))), .unset] [(.int (own_at q1 (5 : Int32))), (.int (5 : Int32)), (.ref b99)])) _
      refine st122 _ ?_
      show Steps p.tables e below (T122.setTop (mkF m 149 #[.val (.int p1), .val (.long q1), .second, .val (.int (7 : Int32)), .val (.ref b99), .val (.int ((((((0 : Int32) + (own_at q1 (0 : Int32))) + (own_at q1 (1 : Int32))) + (own_at q1 (2 : Int32))) + (own_at q1 (3 : Int32))) + (own_at q1 (4 : Int32)))), .unset] [])) _
      refine XS.iload X122.here hx rfl (hb hby at_149) rfl ?_
      show Steps p.tables e below (T122.setTop (mkF m 151 #[.val (.int p1), .val (.long q1), .second, .val (.int (7 : Int32)), .val (.ref b99), .val (.int ((((((0 : Int32) + (own_at q1 (0 : Int32))) + (own_at q1 (1 : Int32))) + (own_at q1 (2 : Int32))) + (own_at q1 (3 : Int32))) + (own_at q1 (4 : Int32)))), .unset] [(.int ((((((0 : Int32) + (own_at q1 (0 : Int32))) + (own_at q1 (1 : Int32))) + (own_at q1 (2 : Int32))) + (own_at q1 (3 : Int32))) + (own_at q1 (4 : Int32))))])) _
      refine XS.lloadN X122.here hx rfl (hb hby at_151) rfl ?_
      show Steps p.tables e below (T122.setTop (mkF m 152 #[.val (.int p1), .val (.long q1), .second, .val (.int (7 : Int32)), .val (.ref b99), .val (.int ((((((0 : Int32) + (own_at q1 (0 : Int32))) + (own_at q1 (1 : Int32))) + (own_at q1 (2 : Int32))) + (own_at q1 (3 : Int32))) + (own_at q1 (4 : Int32)))), .unset] [(.long q1), (.int ((((((0 : Int32) + (own_at q1 (0 : Int32))) + (own_at q1 (1 : Int32))) + (own_at q1 (2 : Int32))) + (own_at q1 (3 : Int32))) + (own_at q1 (4 : Int32))))])) _
      refine XS.iconst X122.here hx rfl (hb hby at_152) ?_
      show Steps p.tables e below (T122.setTop (mkF m 153 #[.val (.int p1), .val (.long q1), .second, .val (.int (7 : Int32)), .val (.ref b99), .val (.int ((((((0 : Int32) + (own_at q1 (0 : Int32))) + (own_at q1 (1 : Int32))) + (own_at q1 (2 : Int32))) + (own_at q1 (3 : Int32))) + (own_at q1 (4 : Int32)))), .unset] [(.int (5 : Int32)), (.long q1), (.int ((((((0 : Int32) + (own_at q1 (0 : Int32))) + (own_at q1 (1 : Int32))) + (own_at q1 (2 : Int32))) + (own_at q1 (3 : Int32))) + (own_at q1 (4 : Int32))))])) _
      refine st123 _ ?_
      show Steps p.tables e below (T123.setTop (mkF m 156 #[.val (.int p1), .val (.long q1), .second, .val (.int (7 : Int32)), .val (.ref b99), .val (.int ((((((0 : Int32) + (own_at q1 (0 : Int32))) + (own_at q1 (1 : Int32))) + (own_at q1 (2 : Int32))) + (own_at q1 (3 : Int32))) + (own_at q1 (4 : Int32)))), .unset] [(.int (own_at q1 (5 : Int32))), (.int ((((((0 : Int32) + (own_at q1 (0 : Int32))) + (own_at q1 (1 : Int32))) + (own_at q1 (2 : Int32))) + (own_at q1 (3 : Int32))) + (own_at q1 (4 : Int32))))])) _
      refine XS.iadd X123.here hx rfl (hb hby at_156) rfl ?_
      show Steps p.tables e below (T123.setTop (mkF m 157 #[.val (.int p1), .val (.long q1), .second, .val (.int (7 : Int32)), .val (.ref b99), .val (.int ((((((0 : Int32) + (own_at q1 (0 : Int32))) + (own_at q1 (1 : Int32))) + (own_at q1 (2 : Int32))) + (own_at q1 (3 : Int32))) + (own_at q1 (4 : Int32)))), .unset] [(.int (((((((0 : Int32) + (own_at q1 (0 : Int32))) + (own_at q1 (1 : Int32))) + (own_at q1 (2 : Int32))) + (own_at q1 (3 : Int32))) + (own_at q1 (4 : Int32))) + (own_at q1 (5 : Int32))))])) _
      refine XS.istore X123.here hx rfl (hb hby at_157) rfl (l' := #[.val (.int p1), .val (.long q1), .second, .val (.int (7 : Int32)), .val (.ref b99), .val (.int (((((((0 : Int32) + (own_at q1 (0 : Int32))) + (own_at q1 (1 : Int32))) + (own_at q1 (2 : Int32))) + (own_at q1 (3 : Int32))) + (own_at q1 (4 : Int32))) + (own_at q1 (5 : Int32)))), .unset]) rfl ?_
      show Steps p.tables e below (T123.setTop (mkF m 159 #[.val (.int p1), .val (.long q1), .second, .val (.int (7 : Int32)), .val (.ref b99), .val (.int (((((((0 : Int32) + (own_at q1 (0 : Int32))) + (own_at q1 (1 : Int32))) + (own_at q1 (2 : Int32))) + (own_at q1 (3 : Int32))) + (own_at q1 (4 : Int32))) + (own_at q1 (5 : Int32)))), .unset] [])) _
      refine XS.iloadN X123.here hx rfl (hb hby at_159) rfl ?_
      show Steps p.tables e below (T123.setTop (mkF m 160 #[.val (.int p1), .val (.long q1), .second, .val (.int (7 : Int32)), .val (.ref b99), .val (.int (((((((0 : Int32) + (own_at q1 (0 : Int32))) + (own_at q1 (1 : Int32))) + (own_at q1 (2 : Int32))) + (own_at q1 (3 : Int32))) + (own_at q1 (4 : Int32))) + (own_at q1 (5 : Int32)))), .unset] [(.int (7 : Int32))])) _
      refine XS.bipush X123.here hx rfl (hb hby at_160) ?_
      show Steps p.tables e below (T123.setTop (mkF m 162 #[.val (.int p1), .val (.long q1), .second, .val (.int (7 : Int32)), .val (.ref b99), .val (.int (((((((0 : Int32) + (own_at q1 (0 : Int32))) + (own_at q1 (1 : Int32))) + (own_at q1 (2 : Int32))) + (own_at q1 (3 : Int32))) + (own_at q1 (4 : Int32))) + (own_at q1 (5 : Int32)))), .unset] [(.int (6 : Int32)), (.int (7 : Int32))])) _
      refine XS.icmpNo X123.here hx rfl (hb hby at_162) rfl (tlt (by decide : (6 : Int32) < (7 : Int32))).2.2.2 ?_
      show Steps p.tables e below (T123.setTop (mkF m 165 #[.val (.int p1), .val (.long q1), .second, .val (.int (7 : Int32)), .val (.ref b99), .val (.int (((((((0 : Int32) + (own_at q1 (0 : Int32))) + (own_at q1 (1 : Int32))) + (own_at q1 (2 : Int32))) + (own_at q1 (3 : Int32))) + (own_at q1 (4 : Int32))) + (own_at q1 (5 : Int32)))), .unset] [])) _
      refine XS.aload X123.here hx rfl (hb hby at_165) rfl rfl ?_
      show Steps p.tables e below (T123.setTop (mkF m 167 #[.val (.int p1), .val (.long q1), .second, .val (.int (7 : Int32)), .val (.ref b99), .val (.int (((((((0 : Int32) + (own_at q1 (0 : Int32))) + (own_at q1 (1 : Int32))) + (own_at q1 (2 : Int32))) + (own_at q1 (3 : Int32))) + (own_at q1 (4 : Int32))) + (own_at q1 (5 : Int32)))), .unset] [(.ref b99)])) _
      refine XS.bipush X123.here hx rfl (hb hby at_167) ?_
      show Steps p.tables e below (T123.setTop (mkF m 169 #[.val (.int p1), .val (.long q1), .second, .val (.int (7 : Int32)), .val (.ref b99), .val (.int (((((((0 : Int32) + (own_at q1 (0 : Int32))) + (own_at q1 (1 : Int32))) + (own_at q1 (2 : Int32))) + (own_at q1 (3 : Int32))) + (own_at q1 (4 : Int32))) + (own_at q1 (5 : Int32)))), .unset] [(.int (6 : Int32)), (.ref b99)])) _
      refine XS.lloadN X123.here hx rfl (hb hby at_169) rfl ?_
      show Steps p.tables e below (T123.setTop (mkF m 170 #[.val (.int p1), .val (.long q1), .second, .val (.int (7 : Int32)), .val (.ref b99), .val (.int (((((((0 : Int32) + (own_at q1 (0 : Int32))) + (own_at q1 (1 : Int32))) + (own_at q1 (2 : Int32))) + (own_at q1 (3 : Int32))) + (own_at q1 (4 : Int32))) + (own_at q1 (5 : Int32)))), .unset] [(.long q1), (.int (6 : Int32)), (.ref b99)])) _
      refine XS.bipush X123.here hx rfl (hb hby at_170) ?_
      show Steps p.tables e below (T123.setTop (mkF m 172 #[.val (.int p1), .val (.long q1), .second, .val (.int (7 : Int32)), .val (.ref b99), .val (.int (((((((0 : Int32) + (own_at q1 (0 : Int32))) + (own_at q1 (1 : Int32))) + (own_at q1 (2 : Int32))) + (own_at q1 (3 : Int32))) + (own_at q1 (4 : Int32))) + (own_at q1 (5 : Int32)))), .unset] [(.int (6 : Int32)), (.long q1), (.int (6 : Int32)), (.ref b99)])) _
      refine st124 _ ?_
      show Steps p.tables e below (T124.setTop (mkF m 175 #[.val (.int p1), .val (.long q1), .second, .val (.int (7 : Int32)), .val (.ref b99), .val (.int (((((((0 : Int32) + (own_at q1 (0 : Int32))) + (own_at q1 (1 : Int32))) + (own_at q1 (2 : Int32))) + (own_at q1 (3 : Int32))) + (own_at q1 (4 : Int32))) + (own_at q1 (5 : Int32)))), .unset] [(.int (own_at q1 (6 : Int32))), (.int (6 : Int32)), (.ref b99)])) _
      refine st126 _ ?_
      show Steps p.tables e below (T126.setTop (mkF m 176 #[.val (.int p1), .val (.long q1), .second, .val (.int (7 : Int32)), .val (.ref b99), .val (.int (((((((0 : Int32) + (own_at q1 (0 : Int32))) + (own_at q1 (1 : Int32))) + (own_at q1 (2 : Int32))) + (own_at q1 (3 : Int32))) + (own_at q1 (4 : Int32))) + (own_at q1 (5 : Int32)))), .unset] [])) _
      refine XS.iload X126.here hx rfl (hb hby at_176) rfl ?_
      show Steps p.tables e below (T126.setTop (mkF m 178 #[.val (.int p1), .val (.long q1), .second, .val (.int (7 : Int32)), .val (.ref b99), .val (.int (((((((0 : Int32) + (own_at q1 (0 : Int32))) + (own_at q1 (1 : Int32))) + (own_at q1 (2 : Int32))) + (own_at q1 (3 : Int32))) + (own_at q1 (4 : Int32))) + (own_at q1 (5 : Int32)))), .unset] [(.int (((((((0 : Int32) + (own_at q1 (0 : Int32))) + (own_at q1 (1 : Int32))) + (own_at q1 (2 : Int32))) + (own_at q1 (3 : Int32))) + (own_at q1 (4 : Int32))) + (own_at q1 (5 : Int32))))])) _
      refine XS.lloadN X126.here hx rfl (hb hby at_178) rfl ?_
      show Steps p.tables e below (T126.setTop (mkF m 179 #[.val (.int p1), .val (.long q1), .second, .val (.int (7 : Int32)), .val (.ref b99), .val (.int (((((((0 : Int32) + (own_at q1 (0 : Int32))) + (own_at q1 (1 : Int32))) + (own_at q1 (2 : Int32))) + (own_at q1 (3 : Int32))) + (own_at q1 (4 : Int32))) + (own_at q1 (5 : Int32)))), .unset] [(.long q1), (.int (((((((0 : Int32) + (own_at q1 (0 : Int32))) + (own_at q1 (1 : Int32))) + (own_at q1 (2 : Int32))) + (own_at q1 (3 : Int32))) + (own_at q1 (4 : Int32))) + (own_at q1 (5 : Int32))))])) _
      refine XS.bipush X126.here hx rfl (hb hby at_179) ?_
      show Steps p.tables e below (T126.setTop (mkF m 181 #[.val (.int p1), .val (.long q1), .second, .val (.int (7 : Int32)), .val (.ref b99), .val (.int (((((((0 : Int32) + (own_at q1 (0 : Int32))) + (own_at q1 (1 : Int32))) + (own_at q1 (2 : Int32))) + (own_at q1 (3 : Int32))) + (own_at q1 (4 : Int32))) + (own_at q1 (5 : Int32)))), .unset] [(.int (6 : Int32)), (.long q1), (.int (((((((0 : Int32) + (own_at q1 (0 : Int32))) + (own_at q1 (1 : Int32))) + (own_at q1 (2 : Int32))) + (own_at q1 (3 : Int32))) + (own_at q1 (4 : Int32))) + (own_at q1 (5 : Int32))))])) _
      refine st127 _ ?_
      show Steps p.tables e below (T127.setTop (mkF m 184 #[.val (.int p1), .val (.long q1), .second, .val (.int (7 : Int32)), .val (.ref b99), .val (.int (((((((0 : Int32) + (own_at q1 (0 : Int32))) + (own_at q1 (1 : Int32))) + (own_at q1 (2 : Int32))) + (own_at q1 (3 : Int32))) + (own_at q1 (4 : Int32))) + (own_at q1 (5 : Int32)))), .unset] [(.int (own_at q1 (6 : Int32))), (.int (((((((0 : Int32) + (own_at q1 (0 : Int32))) + (own_at q1 (1 : Int32))) + (own_at q1 (2 : Int32))) + (own_at q1 (3 : Int32))) + (own_at q1 (4 : Int32))) + (own_at q1 (5 : Int32))))])) _
      refine XS.iadd X127.here hx rfl (hb hby at_184) rfl ?_
      show Steps p.tables e below (T127.setTop (mkF m 185 #[.val (.int p1), .val (.long q1), .second, .val (.int (7 : Int32)), .val (.ref b99), .val (.int (((((((0 : Int32) + (own_at q1 (0 : Int32))) + (own_at q1 (1 : Int32))) + (own_at q1 (2 : Int32))) + (own_at q1 (3 : Int32))) + (own_at q1 (4 : Int32))) + (own_at q1 (5 : Int32)))), .unset] [(.int ((((((((0 : Int32) + (own_at q1 (0 : Int32))) + (own_at q1 (1 : Int32))) + (own_at q1 (2 : Int32))) + (own_at q1 (3 : Int32))) + (own_at q1 (4 : Int32))) + (own_at q1 (5 : Int32))) + (own_at q1 (6 : Int32))))])) _
      refine XS.istore X127.here hx rfl (hb hby at_185) rfl (l' := #[.val (.int p1), .val (.long q1), .second, .val (.int (7 : Int32)), .val (.ref b99), .val (.int ((((((((0 : Int32) + (own_at q1 (0 : Int32))) + (own_at q1 (1 : Int32))) + (own_at q1 (2 : Int32))) + (own_at q1 (3 : Int32))) + (own_at q1 (4 : Int32))) + (own_at q1 (5 : Int32))) + (own_at q1 (6 : Int32)))), .unset]) rfl ?_
      show Steps p.tables e below (T127.setTop (mkF m 187 #[.val (.int p1), .val (.long q1), .second, .val (.int (7 : Int32)), .val (.ref b99), .val (.int ((((((((0 : Int32) + (own_at q1 (0 : Int32))) + (own_at q1 (1 : Int32))) + (own_at q1 (2 : Int32))) + (own_at q1 (3 : Int32))) + (own_at q1 (4 : Int32))) + (own_at q1 (5 : Int32))) + (own_at q1 (6 : Int32)))), .unset] [])) _
      refine XS.iloadN X127.here hx rfl (hb hby at_187) rfl ?_
      show Steps p.tables e below (T127.setTop (mkF m 188 #[.val (.int p1), .val (.long q1), .second, .val (.int (7 : Int32)), .val (.ref b99), .val (.int ((((((((0 : Int32) + (own_at q1 (0 : Int32))) + (own_at q1 (1 : Int32))) + (own_at q1 (2 : Int32))) + (own_at q1 (3 : Int32))) + (own_at q1 (4 : Int32))) + (own_at q1 (5 : Int32))) + (own_at q1 (6 : Int32)))), .unset] [(.int (7 : Int32))])) _
      refine XS.bipush X127.here hx rfl (hb hby at_188) ?_
      show Steps p.tables e below (T127.setTop (mkF m 190 #[.val (.int p1), .val (.long q1), .second, .val (.int (7 : Int32)), .val (.ref b99), .val (.int ((((((((0 : Int32) + (own_at q1 (0 : Int32))) + (own_at q1 (1 : Int32))) + (own_at q1 (2 : Int32))) + (own_at q1 (3 : Int32))) + (own_at q1 (4 : Int32))) + (own_at q1 (5 : Int32))) + (own_at q1 (6 : Int32)))), .unset] [(.int (7 : Int32)), (.int (7 : Int32))])) _
      refine XS.icmpYes X127.here hx rfl (pc0 := 190) (pc' := 215) rfl (hb hby at_190) rfl (flt (by decide : ¬ ((7 : Int32) < (7 : Int32)))).2.2.2 (by decide) (by decide) ?_
      show Steps p.tables e below (T127.setTop (mkF m 215 #[.val (.int p1), .val (.long q1), .second, .val (.int (7 : Int32)), .val (.ref b99), .val (.int ((((((((0 : Int32) + (own_at q1 (0 : Int32))) + (own_at q1 (1 : Int32))) + (own_at q1 (2 : Int32))) + (own_at q1 (3 : Int32))) + (own_at q1 (4 : Int32))) + (own_at q1 (5 : Int32))) + (own_at q1 (6 : Int32)))), .unset] [])) _
      refine XS.aload X127.here hx rfl (hb hby at_215) rfl rfl ?_
      show Steps p.tables e below (T127.setTop (mkF m 217 #[.val (.int p1), .val (.long q1), .second, .val (.int (7 : Int32)), .val (.ref b99), .val (.int ((((((((0 : Int32) + (own_at q1 (0 : Int32))) + (own_at q1 (1 : Int32))) + (own_at q1 (2 : Int32))) + (own_at q1 (3 : Int32))) + (own_at q1 (4 : Int32))) + (own_at q1 (5 : Int32))) + (own_at q1 (6 : Int32)))), .unset] [(.ref b99)])) _
      refine st128 _ ?_
      show Steps p.tables e below (T128.setTop (mkF m 220 #[.val (.int p1), .val (.long q1), .second, .val (.int (7 : Int32)), .val (.ref b99), .val (.int ((((((((0 : Int32) + (own_at q1 (0 : Int32))) + (own_at q1 (1 : Int32))) + (own_at q1 (2 : Int32))) + (own_at q1 (3 : Int32))) + (own_at q1 (4 : Int32))) + (own_at q1 (5 : Int32))) + (own_at q1 (6 : Int32)))), .unset] [(.int (own_cs [(own_at q1 (0 : Int32)), (own_at q1 (1 : Int32)), (own_at q1 (2 : Int32)), (own_at q1 (3 : Int32)), (own_at q1 (4 : Int32)), (own_at q1 (5 : Int32)), (own_at q1 (6 : Int32))]))])) _
      refine XS.istore X128.here hx rfl (hb hby at_220) rfl (l' := #[.val (.int p1), .val (.long q1), .second, .val (.int (7 : Int32)), .val (.ref b99), .val (.int ((((((((0 : Int32) + (own_at q1 (0 : Int32))) + (own_at q1 (1 : Int32))) + (own_at q1 (2 : Int32))) + (own_at q1 (3 : Int32))) + (own_at q1 (4 : Int32))) + (own_at q1 (5 : Int32))) + (own_at q1 (6 : Int32)))), .val (.int (own_cs [(own_at q1 (0 : Int32)), (own_at q1 (1 : Int32)), (own_at q1 (2 : Int32)), (own_at q1 (3 : Int32)), (own_at q1 (4 : Int32)), (own_at q1 (5 : Int32)), (own_at q1 (6 : Int32))]))]) rfl ?_
      show Steps p.tables e below (T128.setTop (mkF m 222 #[.val (.int p1), .val (.long q1), .second, .val (.int (7 : Int32)), .val (.ref b99), .val (.int ((((((((0 : Int32) + (own_at q1 (0 : Int32))) + (own_at q1 (1 : Int32))) + (own_at q1 (2 : Int32))) + (own_at q1 (3 : Int32))) + (own_at q1 (4 : Int32))) + (own_at q1 (5 : Int32))) + (own_at q1 (6 : Int32)))), .val (.int (own_cs [(own_at q1 (0 : Int32)), (own_at q1 (1 : Int32)), (own_at q1 (2 : Int32)), (own_at q1 (3 : Int32)), (own_at q1 (4 : Int32)), (own_at q1 (5 : Int32)), (own_at q1 (6 : Int32))]))] [])) _
      refine XS.iload X128.here hx rfl (hb hby at_222) rfl ?_
      show Steps p.tables e below (T128.setTop (mkF m 224 #[.val (.int p1), .val (.long q1), .second, .val (.int (7 : Int32)), .val (.ref b99), .val (.int ((((((((0 : Int32) + (own_at q1 (0 : Int32))) + (own_at q1 (1 : Int32))) + (own_at q1 (2 : Int32))) + (own_at q1 (3 : Int32))) + (own_at q1 (4 : Int32))) + (own_at q1 (5 : Int32))) + (own_at q1 (6 : Int32)))), .val (.int (own_cs [(own_at q1 (0 : Int32)), (own_at q1 (1 : Int32)), (own_at q1 (2 : Int32)), (own_at q1 (3 : Int32)), (own_at q1 (4 : Int32)), (own_at q1 (5 : Int32)), (own_at q1 (6 : Int32))]))] [(.int (own_cs [(own_at q1 (0 : Int32)), (own_at q1 (1 : Int32)), (own_at q1 (2 : Int32)), (own_at q1 (3 : Int32)), (own_at q1 (4 : Int32)), (own_at q1 (5 : Int32)), (own_at q1 (6 : Int32))]))])) _
      refine XS.iload X128.here hx rfl (hb hby at_224) rfl ?_
      show Steps p.tables e below (T128.setTop (mkF m 226 #[.val (.int p1), .val (.long q1), .second, .val (.int (7 : Int32)), .val (.ref b99), .val (.int ((((((((0 : Int32) + (own_at q1 (0 : Int32))) + (own_at q1 (1 : Int32))) + (own_at q1 (2 : Int32))) + (own_at q1 (3 : Int32))) + (own_at q1 (4 : Int32))) + (own_at q1 (5 : Int32))) + (own_at q1 (6 : Int32)))), .val (.int (own_cs [(own_at q1 (0 : Int32)), (own_at q1 (1 : Int32)), (own_at q1 (2 : Int32)), (own_at q1 (3 : Int32)), (own_at q1 (4 : Int32)), (own_at q1 (5 : Int32)), (own_at q1 (6 : Int32))]))] [(.int ((((((((0 : Int32) + (own_at q1 (0 : Int32))) + (own_at q1 (1 : Int32))) + (own_at q1 (2 : Int32))) + (own_at q1 (3 : Int32))) + (own_at q1 (4 : Int32))) + (own_at q1 (5 : Int32))) + (own_at q1 (6 : Int32)))), (.int (own_cs [(own_at q1 (0 : Int32)), (own_at q1 (1 : Int32)), (own_at q1 (2 : Int32)), (own_at q1 (3 : Int32)), (own_at q1 (4 : Int32)), (own_at q1 (5 : Int32)), (own_at q1 (6 : Int32))]))])) _
      refine XS.sipush X128.here hx rfl (hb hby at_226) ?_
      show Steps p.tables e below (T128.setTop (mkF m 229 #[.val (.int p1), .val (.long q1), .second, .val (.int (7 : Int32)), .val (.ref b99), .val (.int ((((((((0 : Int32) + (own_at q1 (0 : Int32))) + (own_at q1 (1 : Int32))) + (own_at q1 (2 : Int32))) + (own_at q1 (3 : Int32))) + (own_at q1 (4 : Int32))) + (own_at q1 (5 : Int32))) + (own_at q1 (6 : Int32)))), .val (.int (own_cs [(own_at q1 (0 : Int32)), (own_at q1 (1 : Int32)), (own_at q1 (2 : Int32)), (own_at q1 (3 : Int32)), (own_at q1 (4 : Int32)), (own_at q1 (5 : Int32)), (own_at q1 (6 : Int32))]))] [(.int (255 : Int32)), (.int ((((((((0 : Int32) + (own_at q1 (0 : Int32))) + (own_at q1 (1 : Int32))) + (own_at q1 (2 : Int32))) + (own_at q1 (3 : Int32))) + (own_at q1 (4 : Int32))) + (own_at q1 (5 : Int32))) + (own_at q1 (6 : Int32)))), (.int (own_cs [(own_at q1 (0 : Int32)), (own_at q1 (1 : Int32)), (own_at q1 (2 : Int32)), (own_at q1 (3 : Int32)), (own_at q1 (4 : Int32)), (own_at q1 (5 : Int32)), (own_at q1 (6 : Int32))]))])) _
      refine XS.iand X128.here hx rfl (hb hby at_229) rfl ?_
      show Steps p.tables e below (T128.setTop (mkF m 230 #[.val (.int p1), .val (.long q1), .second, .val (.int (7 : Int32)), .val (.ref b99), .val (.int ((((((((0 : Int32) + (own_at q1 (0 : Int32))) + (own_at q1 (1 : Int32))) + (own_at q1 (2 : Int32))) + (own_at q1 (3 : Int32))) + (own_at q1 (4 : Int32))) + (own_at q1 (5 : Int32))) + (own_at q1 (6 : Int32)))), .val (.int (own_cs [(own_at q1 (0 : Int32)), (own_at q1 (1 : Int32)), (own_at q1 (2 : Int32)), (own_at q1 (3 : Int32)), (own_at q1 (4 : Int32)), (own_at q1 (5 : Int32)), (own_at q1 (6 : Int32))]))] [(.int (((((((((0 : Int32) + (own_at q1 (0 : Int32))) + (own_at q1 (1 : Int32))) + (own_at q1 (2 : Int32))) + (own_at q1 (3 : Int32))) + (own_at q1 (4 : Int32))) + (own_at q1 (5 : Int32))) + (own_at q1 (6 : Int32))) &&& (255 : Int32))), (.int (own_cs [(own_at q1 (0 : Int32)), (own_at q1 (1 : Int32)), (own_at q1 (2 : Int32)), (own_at q1 (3 : Int32)), (own_at q1 (4 : Int32)), (own_at q1 (5 : Int32)), (own_at q1 (6 : Int32))]))])) _
      refine XS.icmpNo X128.here hx rfl (hb hby at_230) rfl (teq (own_key [(own_at q1 (0 : Int32)), (own_at q1 (1 : Int32)), (own_at q1 (2 : Int32)), (own_at q1 (3 : Int32)), (own_at q1 (4 : Int32)), (own_at q1 (5 : Int32)), (own_at q1 (6 : Int32))] : (own_cs [(own_at q1 (0 : Int32)), (own_at q1 (1 : Int32)), (own_at q1 (2 : Int32)), (own_at q1 (3 : Int32)), (own_at q1 (4 : Int32)), (own_at q1 (5 : Int32)), (own_at q1 (6 : Int32))]) = (((((((((0 : Int32) + (own_at q1 (0 : Int32))) + (own_at q1 (1 : Int32))) + (own_at q1 (2 : Int32))) + (own_at q1 (3 : Int32))) + (own_at q1 (4 : Int32))) + (own_at q1 (5 : Int32))) + (own_at q1 (6 : Int32))) &&& (255 : Int32)))).2 ?_
      show Steps p.tables e below (T128.setTop (mkF m 233 #[.val (.int p1), .val (.long q1), .second, .val (.int (7 : Int32)), .val (.ref b99), .val (.int ((((((((0 : Int32) + (own_at q1 (0 : Int32))) + (own_at q1 (1 : Int32))) + (own_at q1 (2 : Int32))) + (own_at q1 (3 : Int32))) + (own_at q1 (4 : Int32))) + (own_at q1 (5 : Int32))) + (own_at q1 (6 : Int32)))), .val (.int (own_cs [(own_at q1 (0 : Int32)), (own_at q1 (1 : Int32)), (own_at q1 (2 : Int32)), (own_at q1 (3 : Int32)), (own_at q1 (4 : Int32)), (own_at q1 (5 : Int32)), (own_at q1 (6 : Int32))]))] [])) _
      refine XS.iconst X128.here hx rfl (hb hby at_233) ?_
      show Steps p.tables e below (T128.setTop (mkF m 234 #[.val (.int p1), .val (.long q1), .second, .val (.int (7 : Int32)), .val (.ref b99), .val (.int ((((((((0 : Int32) + (own_at q1 (0 : Int32))) + (own_at q1 (1 : Int32))) + (own_at q1 (2 : Int32))) + (own_at q1 (3 : Int32))) + (own_at q1 (4 : Int32))) + (own_at q1 (5 : Int32))) + (own_at q1 (6 : Int32)))), .val (.int (own_cs [(own_at q1 (0 : Int32)), (own_at q1 (1 : Int32)), (own_at q1 (2 : Int32)), (own_at q1 (3 : Int32)), (own_at q1 (4 : Int32)), (own_at q1 (5 : Int32)), (own_at q1 (6 : Int32))]))] [(.int (1 : Int32))])) _
      refine XS.goto X128.here hx rfl (pc0 := 234) (pc' := 238) rfl (hb hby at_234) (by decide) (by decide) ?_
      show Steps p.tables e below (T128.setTop (mkF m 238 #[.val (.int p1), .val (.long q1), .second, .val (.int (7 : Int32)), .val (.ref b99), .val (.int ((((((((0 : Int32) + (own_at q1 (0 : Int32))) + (own_at q1 (1 : Int32))) + (own_at q1 (2 : Int32))) + (own_at q1 (3 : Int32))) + (own_at q1 (4 : Int32))) + (own_at q1 (5 : Int32))) + (own_at q1 (6 : Int32)))), .val (.int (own_cs [(own_at q1 (0 : Int32)), (own_at q1 (1 : Int32)), (own_at q1 (2 : Int32)), (own_at q1 (3 : Int32)), (own_at q1 (4 : Int32)), (own_at q1 (5 : Int32)), (own_at q1 (6 : Int32))]))] [(.int (1 : Int32))])) _
      exact retN X128 hx (t := .boolean) Bd.returns (by simp) (hb hby at_238) hr
    · show Qown_law Z p1 q1 h0 n0 _ T128.heap _
      rw [e128]
      exact ⟨rfl, N128⟩
  · obtain ⟨T129, h129, k129, X129, e129, E129, A129, st129⟩ := newP X0 hx hZ (hw _ (List.mem_of_getElem? (i := 1) rfl)) e0 (g := (mkF m 9 #[.val (.int p1), .val (.long q1), .second, .val (.int (8 : Int32)), .unset, .unset, .unset] [(.int (8 : Int32))])) rfl (hb hby at_9) rfl (by decide) (cap := 8) (by decide) (by decide) (by decide) (by decide)
    obtain ⟨b129, g129⟩ : ∃ z, z = h0.size := ⟨_, rfl⟩
    rw [← g129] at A129 st129
    have V129 : Arv Z h129 b129 k129 .byte (8 : Int32) [(.int (0 : Int32)), (.int (0 : Int32)), (.int (0 : Int32)), (.int (0 : Int32)), (.int (0 : Int32)), (.int (0 : Int32)), (.int (0 : Int32)), (.int (0 : Int32))] (.int (0 : Int32)) := (Arv.new A129 (by decide)).pad (pad_rep [] (.int (0 : Int32)) 8)
    have g_b129 : n0 ≤ b129 := Nat.le_trans Z0 (Nat.le_of_eq g129.symm)
    have sz_b129 : h0.size ≤ b129 := Nat.le_trans (Keep.refl h0 []).1 (Nat.le_of_eq g129.symm)
    have Z129 : n0 ≤ h129.size := Nat.le_trans Z0 E129.1
    have K129 : Keep h0 h129 [] := (Keep.refl h0 []).ext E129
    obtain ⟨_, _, ⟨T130, L130, k130, n130⟩, -, X130, ⟨Lc130, hQ130, l130, y130, z130⟩, st130⟩ := Jvm.LawKit.callS X129 hx (y := (⟨"com/example/assaybus/assaybus/link/FrameChecksumPinLaw", "at", "(JI)B"⟩ : MethodName)) hown (mvT hZ (hw _ (List.mem_of_getElem? (i := 6) rfl))) (mvT hZ (hw _ (List.mem_of_getElem? (i := 7) rfl))) (mvT hZ (hw _ (List.mem_of_getElem? (i := 8) rfl))) (mvT hZ (hw _ (List.mem_of_getElem? (i := 9) rfl))) (by decide) (backOf (W := 2) (own_mat l Z a0 hw [] q1 (0 : Int32)  h129 n0 Z129 ) hZ (hw _ (List.mem_of_getElem? (i := 9) rfl)) (hw _ (List.mem_of_getElem? (i := 8) rfl)) (by decide) (by decide)) (g := (mkF m 25 #[.val (.int p1), .val (.long q1), .second, .val (.int (8 : Int32)), .val (.ref b129), .val (.int (0 : Int32)), .unset] [(.int (0 : Int32)), (.long q1), (.int (0 : Int32)), (.ref b129)])) rfl (by rw [hml]; rfl) (argsL := [(.long q1), (.int (0 : Int32))]) (rest := [(.int (0 : Int32)), (.ref b129)]) (lenOf pd__JI_B rfl) rfl (by show 2 * 0 + _ ≤ _; exact Nat.le_of_eq rfl) (hb hby at_25) (fun _ _ => ⟨rfl, e129, (by decide : 1 + 0 ≤ _), (by decide : 8 + 0 ≤ _)⟩)
    dsimp only [Pt.U, Pt.locs, Pt.cells, Pt.slots] at X130 l130 y130 z130 st130 hQ130
    replace X130 := X130.more (Nat.le_of_eq (show k130 = 1 from y130)) (Nat.le_of_eq (show n130 = 8 from z130))
    obtain ⟨rfl, Nq130, e130⟩ := hQ130
    have N130 : Fr n0 L130 := by rw [l130]; exact Fr.app N0 Nq130
    obtain ⟨cl131, Ar131, qc131, S131, Nn131, H131, G131⟩ := id V129
    have hin131 : ¬ ((0 : Int32) < 0 ∨ cl131.slots.size ≤ ((0 : Int32)).toNatClampNeg) := inb_of S131 ⟨by decide, by decide⟩
    obtain ⟨T132, h132, X132, e132, W132, st132⟩ := stB X130 hx hZ e130 Ar131 (j := (0 : Int32)) hin131 (g := (mkF m 28 #[.val (.int p1), .val (.long q1), .second, .val (.int (8 : Int32)), .val (.ref b129), .val (.int (0 : Int32)), .unset] [(.int (own_at q1 (0 : Int32))), (.int (0 : Int32)), (.ref b129)])) rfl rfl (hb hby at_28)
    have V132 : Arv Z h132 b129 k129 .byte (8 : Int32) [(.int (nar .byte (own_at q1 (0 : Int32)))), (.int (0 : Int32)), (.int (0 : Int32)), (.int (0 : Int32)), (.int (0 : Int32)), (.int (0 : Int32)), (.int (0 : Int32)), (.int (0 : Int32))] (.int (0 : Int32)) := Arv.set Ar131 qc131 S131 Nn131 H131 G131 (fits_nar_byte _) W132 0 rfl (Nat.le_of_ble_eq_true rfl)
    have V132v : Arv Z h132 b129 k129 .byte (8 : Int32) [(.int (own_at q1 (0 : Int32))), (.int (0 : Int32)), (.int (0 : Int32)), (.int (0 : Int32)), (.int (0 : Int32)), (.int (0 : Int32)), (.int (0 : Int32)), (.int (0 : Int32))] (.int (0 : Int32)) := by have q := V132; rw [own_nara] at q; exact q
    have K132 : Keep h0 h132 [] := K129.wr W132 (Or.inr sz_b129)
    have N132 := Fr.snoc X132 N130 g_b129
    have Z132 : n0 ≤ h132.size := Nat.le_trans Z129 (Keep.of_wr W132).1
    obtain ⟨_, _, ⟨T133, L133, k133, n133⟩, -, X133, ⟨Lc133, hQ133, l133, y133, z133⟩, st133⟩ := Jvm.LawKit.callS X132 hx (y := (⟨"com/example/assaybus/assaybus/link/FrameChecksumPinLaw", "at", "(JI)B"⟩ : MethodName)) hown (mvT hZ (hw _ (List.mem_of_getElem? (i := 6) rfl))) (mvT hZ (hw _ (List.mem_of_getElem? (i := 7) rfl))) (mvT hZ (hw _ (List.mem_of_getElem? (i := 8) rfl))) (mvT hZ (hw _ (List.mem_of_getElem? (i := 9) rfl))) (by decide) (backOf (W := 1) (own_mat l Z a0 hw [] q1 (0 : Int32)  h132 n0 Z132 ) hZ (hw _ (List.mem_of_getElem? (i := 9) rfl)) (hw _ (List.mem_of_getElem? (i := 8) rfl)) (by decide) (by decide)) (g := (mkF m 33 #[.val (.int p1), .val (.long q1), .second, .val (.int (8 : Int32)), .val (.ref b129), .val (.int (0 : Int32)), .unset] [(.int (0 : Int32)), (.long q1), (.int (0 : Int32))])) rfl (by rw [hml]; rfl) (argsL := [(.long q1), (.int (0 : Int32))]) (rest := [(.int (0 : Int32))]) (lenOf pd__JI_B rfl) rfl (by show 2 * 0 + _ ≤ _; exact Nat.le_of_eq rfl) (hb hby at_33) (fun _ _ => ⟨rfl, e132, (by decide : 1 + 0 ≤ _), (by decide : 8 + 0 ≤ _)⟩)
    dsimp only [Pt.U, Pt.locs, Pt.cells, Pt.slots] at X133 l133 y133 z133 st133 hQ133
    replace X133 := X133.more (Nat.le_of_eq (show k133 = 1 from y133)) (Nat.le_of_eq (show n133 = 8 from z133))
    obtain ⟨rfl, Nq133, e133⟩ := hQ133
    have N133 : Fr n0 L133 := by rw [l133]; exact Fr.app N132 Nq133
    obtain ⟨_, _, ⟨T134, L134, k134, n134⟩, -, X134, ⟨Lc134, hQ134, l134, y134, z134⟩, st134⟩ := Jvm.LawKit.callS X133 hx (y := (⟨"com/example/assaybus/assaybus/link/FrameChecksumPinLaw", "at", "(JI)B"⟩ : MethodName)) hown (mvT hZ (hw _ (List.mem_of_getElem? (i := 6) rfl))) (mvT hZ (hw _ (List.mem_of_getElem? (i := 7) rfl))) (mvT hZ (hw _ (List.mem_of_getElem? (i := 8) rfl))) (mvT hZ (hw _ (List.mem_of_getElem? (i := 9) rfl))) (by decide) (backOf (W := 2) (own_mat l Z a0 hw [] q1 (1 : Int32)  h132 n0 Z132 ) hZ (hw _ (List.mem_of_getElem? (i := 9) rfl)) (hw _ (List.mem_of_getElem? (i := 8) rfl)) (by decide) (by decide)) (g := (mkF m 49 #[.val (.int p1), .val (.long q1), .second, .val (.int (8 : Int32)), .val (.ref b129), .val (.int ((0 : Int32) + (own_at q1 (0 : Int32)))), .unset] [(.int (1 : Int32)), (.long q1), (.int (1 : Int32)), (.ref b129)])) rfl (by rw [hml]; rfl) (argsL := [(.long q1), (.int (1 : Int32))]) (rest := [(.int (1 : Int32)), (.ref b129)]) (lenOf pd__JI_B rfl) rfl (by show 2 * 0 + _ ≤ _; exact Nat.le_of_eq rfl) (hb hby at_49) (fun _ _ => ⟨rfl, e133, (by decide : 1 + 0 ≤ _), (by decide : 8 + 0 ≤ _)⟩)
    dsimp only [Pt.U, Pt.locs, Pt.cells, Pt.slots] at X134 l134 y134 z134 st134 hQ134
    replace X134 := X134.more (Nat.le_of_eq (show k134 = 1 from y134)) (Nat.le_of_eq (show n134 = 8 from z134))
    obtain ⟨rfl, Nq134, e134⟩ := hQ134
    have N134 : Fr n0 L134 := by rw [l134]; exact Fr.app N133 Nq134
    obtain ⟨cl135, Ar135, qc135, S135, Nn135, H135, G135⟩ := id V132v
    have hin135 : ¬ ((1 : Int32) < 0 ∨ cl135.slots.size ≤ ((1 : Int32)).toNatClampNeg) := inb_of S135 ⟨by decide, by decide⟩
    obtain ⟨T136, h136, X136, e136, W136, st136⟩ := stB X134 hx hZ e134 Ar135 (j := (1 : Int32)) hin135 (g := (mkF m 52 #[.val (.int p1), .val (.long q1), .second, .val (.int (8 : Int32)), .val (.ref b129), .val (.int ((0 : Int32) + (own_at q1 (0 : Int32)))), .unset] [(.int (own_at q1 (1 : Int32))), (.int (1 : Int32)), (.ref b129)])) rfl rfl (hb hby at_52)
    have V136 : Arv Z h136 b129 k129 .byte (8 : Int32) [(.int (own_at q1 (0 : Int32))), (.int (nar .byte (own_at q1 (1 : Int32)))), (.int (0 : Int32)), (.int (0 : Int32)), (.int (0 : Int32)), (.int (0 : Int32)), (.int (0 : Int32)), (.int (0 : Int32))] (.int (0 : Int32)) := Arv.set Ar135 qc135 S135 Nn135 H135 G135 (fits_nar_byte _) W136 1 rfl (Nat.le_of_ble_eq_true rfl)
    have V136v : Arv Z h136 b129 k129 .byte (8 : Int32) [(.int (own_at q1 (0 : Int32))), (.int (own_at q1 (1 : Int32))), (.int (0 : Int32)), (.int (0 : Int32)), (.int (0 : Int32)), (.int (0 : Int32)), (.int (0 : Int32)), (.int (0 : Int32))] (.int (0 : Int32)) := by have q := V136; rw [own_nara] at q; exact q
    have K136 : Keep h0 h136 [] := K132.wr W136 (Or.inr sz_b129)
    have N136 := Fr.snoc X136 N134 g_b129
    have Z136 : n0 ≤ h136.size := Nat.le_trans Z132 (Keep.of_wr W136).1
    obtain ⟨_, _, ⟨T137, L137, k137, n137⟩, -, X137, ⟨Lc137, hQ137, l137, y137, z137⟩, st137⟩ := Jvm.LawKit.callS X136 hx (y := (⟨"com/example/assaybus/assaybus/link/FrameChecksumPinLaw", "at", "(JI)B"⟩ : MethodName)) hown (mvT hZ (hw _ (List.mem_of_getElem? (i := 6) rfl))) (mvT hZ (hw _ (List.mem_of_getElem? (i := 7) rfl))) (mvT hZ (hw _ (List.mem_of_getElem? (i := 8) rfl))) (mvT hZ (hw _ (List.mem_of_getElem? (i := 9) rfl))) (by decide) (backOf (W := 1) (own_mat l Z a0 hw [] q1 (1 : Int32)  h136 n0 Z136 ) hZ (hw _ (List.mem_of_getElem? (i := 9) rfl)) (hw _ (List.mem_of_getElem? (i := 8) rfl)) (by decide) (by decide)) (g := (mkF m 57 #[.val (.int p1), .val (.long q1), .second, .val (.int (8 : Int32)), .val (.ref b129), .val (.int ((0 : Int32) + (own_at q1 (0 : Int32)))), .unset] [(.int (1 : Int32)), (.long q1), (.int ((0 : Int32) + (own_at q1 (0 : Int32))))])) rfl (by rw [hml]; rfl) (argsL := [(.long q1), (.int (1 : Int32))]) (rest := [(.int ((0 : Int32) + (own_at q1 (0 : Int32))))]) (lenOf pd__JI_B rfl) rfl (by show 2 * 0 + _ ≤ _; exact Nat.le_of_eq rfl) (hb hby at_57) (fun _ _ => ⟨rfl, e136, (by decide : 1 + 0 ≤ _), (by decide : 8 + 0 ≤ _)⟩)
    dsimp only [Pt.U, Pt.locs, Pt.cells, Pt.slots] at X137 l137 y137 z137 st137 hQ137
    replace X137 := X137.more (Nat.le_of_eq (show k137 = 1 from y137)) (Nat.le_of_eq (show n137 = 8 from z137))
    obtain ⟨rfl, Nq137, e137⟩ := hQ137
    have N137 : Fr n0 L137 := by rw [l137]; exact Fr.app N136 Nq137
    obtain ⟨_, _, ⟨T138, L138, k138, n138⟩, -, X138, ⟨Lc138, hQ138, l138, y138, z138⟩, st138⟩ := Jvm.LawKit.callS X137 hx (y := (⟨"com/example/assaybus/assaybus/link/FrameChecksumPinLaw", "at", "(JI)B"⟩ : MethodName)) hown (mvT hZ (hw _ (List.mem_of_getElem? (i := 6) rfl))) (mvT hZ (hw _ (List.mem_of_getElem? (i := 7) rfl))) (mvT hZ (hw _ (List.mem_of_getElem? (i := 8) rfl))) (mvT hZ (hw _ (List.mem_of_getElem? (i := 9) rfl))) (by decide) (backOf (W := 2) (own_mat l Z a0 hw [] q1 (2 : Int32)  h136 n0 Z136 ) hZ (hw _ (List.mem_of_getElem? (i := 9) rfl)) (hw _ (List.mem_of_getElem? (i := 8) rfl)) (by decide) (by decide)) (g := (mkF m 73 #[.val (.int p1), .val (.long q1), .second, .val (.int (8 : Int32)), .val (.ref b129), .val (.int (((0 : Int32) + (own_at q1 (0 : Int32))) + (own_at q1 (1 : Int32)))), .unset] [(.int (2 : Int32)), (.long q1), (.int (2 : Int32)), (.ref b129)])) rfl (by rw [hml]; rfl) (argsL := [(.long q1), (.int (2 : Int32))]) (rest := [(.int (2 : Int32)), (.ref b129)]) (lenOf pd__JI_B rfl) rfl (by show 2 * 0 + _ ≤ _; exact Nat.le_of_eq rfl) (hb hby at_73) (fun _ _ => ⟨rfl, e137, (by decide : 1 + 0 ≤ _), (by decide : 8 + 0 ≤ _)⟩)
    dsimp only [Pt.U, Pt.locs, Pt.cells, Pt.slots] at X138 l138 y138 z138 st138 hQ138
    replace X138 := X138.more (Nat.le_of_eq (show k138 = 1 from y138)) (Nat.le_of_eq (show n138 = 8 from z138))
    obtain ⟨rfl, Nq138, e138⟩ := hQ138
    have N138 : Fr n0 L138 := by rw [l138]; exact Fr.app N137 Nq138
    obtain ⟨cl139, Ar139, qc139, S139, Nn139, H139, G139⟩ := id V136v
    have hin139 : ¬ ((2 : Int32) < 0 ∨ cl139.slots.size ≤ ((2 : Int32)).toNatClampNeg) := inb_of S139 ⟨by decide, by decide⟩
    obtain ⟨T140, h140, X140, e140, W140, st140⟩ := stB X138 hx hZ e138 Ar139 (j := (2 : Int32)) hin139 (g := (mkF m 76 #[.val (.int p1), .val (.long q1), .second, .val (.int (8 : Int32)), .val (.ref b129), .val (.int (((0 : Int32) + (own_at q1 (0 : Int32))) + (own_at q1 (1 : Int32)))), .unset] [(.int (own_at q1 (2 : Int32))), (.int (2 : Int32)), (.ref b129)])) rfl rfl (hb hby at_76)
    have V140 : Arv Z h140 b129 k129 .byte (8 : Int32) [(.int (own_at q1 (0 : Int32))), (.int (own_at q1 (1 : Int32))), (.int (nar .byte (own_at q1 (2 : Int32)))), (.int (0 : Int32)), (.int (0 : Int32)), (.int (0 : Int32)), (.int (0 : Int32)), (.int (0 : Int32))] (.int (0 : Int32)) := Arv.set Ar139 qc139 S139 Nn139 H139 G139 (fits_nar_byte _) W140 2 rfl (Nat.le_of_ble_eq_true rfl)
    have V140v : Arv Z h140 b129 k129 .byte (8 : Int32) [(.int (own_at q1 (0 : Int32))), (.int (own_at q1 (1 : Int32))), (.int (own_at q1 (2 : Int32))), (.int (0 : Int32)), (.int (0 : Int32)), (.int (0 : Int32)), (.int (0 : Int32)), (.int (0 : Int32))] (.int (0 : Int32)) := by have q := V140; rw [own_nara] at q; exact q
    have K140 : Keep h0 h140 [] := K136.wr W140 (Or.inr sz_b129)
    have N140 := Fr.snoc X140 N138 g_b129
    have Z140 : n0 ≤ h140.size := Nat.le_trans Z136 (Keep.of_wr W140).1
    obtain ⟨_, _, ⟨T141, L141, k141, n141⟩, -, X141, ⟨Lc141, hQ141, l141, y141, z141⟩, st141⟩ := Jvm.LawKit.callS X140 hx (y := (⟨"com/example/assaybus/assaybus/link/FrameChecksumPinLaw", "at", "(JI)B"⟩ : MethodName)) hown (mvT hZ (hw _ (List.mem_of_getElem? (i := 6) rfl))) (mvT hZ (hw _ (List.mem_of_getElem? (i := 7) rfl))) (mvT hZ (hw _ (List.mem_of_getElem? (i := 8) rfl))) (mvT hZ (hw _ (List.mem_of_getElem? (i := 9) rfl))) (by decide) (backOf (W := 1) (own_mat l Z a0 hw [] q1 (2 : Int32)  h140 n0 Z140 ) hZ (hw _ (List.mem_of_getElem? (i := 9) rfl)) (hw _ (List.mem_of_getElem? (i := 8) rfl)) (by decide) (by decide)) (g := (mkF m 81 #[.val (.int p1), .val (.long q1), .second, .val (.int (8 : Int32)), .val (.ref b129), .val (.int (((0 : Int32) + (own_at q1 (0 : Int32))) + (own_at q1 (1 : Int32)))), .unset] [(.int (2 : Int32)), (.long q1), (.int (((0 : Int32) + (own_at q1 (0 : Int32))) + (own_at q1 (1 : Int32))))])) rfl (by rw [hml]; rfl) (argsL := [(.long q1), (.int (2 : Int32))]) (rest := [(.int (((0 : Int32) + (own_at q1 (0 : Int32))) + (own_at q1 (1 : Int32))))]) (lenOf pd__JI_B rfl) rfl (by show 2 * 0 + _ ≤ _; exact Nat.le_of_eq rfl) (hb hby at_81) (fun _ _ => ⟨rfl, e140, (by decide : 1 + 0 ≤ _), (by decide : 8 + 0 ≤ _)⟩)
    dsimp only [Pt.U, Pt.locs, Pt.cells, Pt.slots] at X141 l141 y141 z141 st141 hQ141
    replace X141 := X141.more (Nat.le_of_eq (show k141 = 1 from y141)) (Nat.le_of_eq (show n141 = 8 from z141))
    obtain ⟨rfl, Nq141, e141⟩ := hQ141
    have N141 : Fr n0 L141 := by rw [l141]; exact Fr.app N140 Nq141
    obtain ⟨_, _, ⟨T142, L142, k142, n142⟩, -, X142, ⟨Lc142, hQ142, l142, y142, z142⟩, st142⟩ := Jvm.LawKit.callS X141 hx (y := (⟨"com/example/assaybus/assaybus/link/FrameChecksumPinLaw", "at", "(JI)B"⟩ : MethodName)) hown (mvT hZ (hw _ (List.mem_of_getElem? (i := 6) rfl))) (mvT hZ (hw _ (List.mem_of_getElem? (i := 7) rfl))) (mvT hZ (hw _ (List.mem_of_getElem? (i := 8) rfl))) (mvT hZ (hw _ (List.mem_of_getElem? (i := 9) rfl))) (by decide) (backOf (W := 2) (own_mat l Z a0 hw [] q1 (3 : Int32)  h140 n0 Z140 ) hZ (hw _ (List.mem_of_getElem? (i := 9) rfl)) (hw _ (List.mem_of_getElem? (i := 8) rfl)) (by decide) (by decide)) (g := (mkF m 97 #[.val (.int p1), .val (.long q1), .second, .val (.int (8 : Int32)), .val (.ref b129), .val (.int ((((0 : Int32) + (own_at q1 (0 : Int32))) + (own_at q1 (1 : Int32))) + (own_at q1 (2 : Int32)))), .unset] [(.int (3 : Int32)), (.long q1), (.int (3 : Int32)), (.ref b129)])) rfl (by rw [hml]; rfl) (argsL := [(.long q1), (.int (3 : Int32))]) (rest := [(.int (3 : Int32)), (.ref b129)]) (lenOf pd__JI_B rfl) rfl (by show 2 * 0 + _ ≤ _; exact Nat.le_of_eq rfl) (hb hby at_97) (fun _ _ => ⟨rfl, e141, (by decide : 1 + 0 ≤ _), (by decide : 8 + 0 ≤ _)⟩)
    dsimp only [Pt.U, Pt.locs, Pt.cells, Pt.slots] at X142 l142 y142 z142 st142 hQ142
    replace X142 := X142.more (Nat.le_of_eq (show k142 = 1 from y142)) (Nat.le_of_eq (show n142 = 8 from z142))
    obtain ⟨rfl, Nq142, e142⟩ := hQ142
    have N142 : Fr n0 L142 := by rw [l142]; exact Fr.app N141 Nq142
    obtain ⟨cl143, Ar143, qc143, S143, Nn143, H143, G143⟩ := id V140v
    have hin143 : ¬ ((3 : Int32) < 0 ∨ cl143.slots.size ≤ ((3 : Int32)).toNatClampNeg) := inb_of S143 ⟨by decide, by decide⟩
    obtain ⟨T144, h144, X144, e144, W144, st144⟩ := stB X142 hx hZ e142 Ar143 (j := (3 : Int32)) hin143 (g := (mkF m 100 #[.val (.int p1), .val (.long q1), .second, .val (.int (8 : Int32)), .val (.ref b129), .val (.int ((((0 : Int32) + (own_at q1 (0 : Int32))) + (own_at q1 (1 : Int32))) + (own_at q1 (2 : Int32)))), .unset] [(.int (own_at q1 (3 : Int32))), (.int (3 : Int32)), (.ref b129)])) rfl rfl (hb hby at_100)
    have V144 : Arv Z h144 b129 k129 .byte (8 : Int32) [(.int (own_at q1 (0 : Int32))), (.int (own_at q1 (1 : Int32))), (.int (own_at q1 (2 : Int32))), (.int (nar .byte (own_at q1 (3 : Int32)))), (.int (0 : Int32)), (.int (0 : Int32)), (.int (0 : Int32)), (.int (0 : Int32))] (.int (0 : Int32)) := Arv.set Ar143 qc143 S143 Nn143 H143 G143 (fits_nar_byte _) W144 3 rfl (Nat.le_of_ble_eq_true rfl)
    have V144v : Arv Z h144 b129 k129 .byte (8 : Int32) [(.int (own_at q1 (0 : Int32))), (.int (own_at q1 (1 : Int32))), (.int (own_at q1 (2 : Int32))), (.int (own_at q1 (3 : Int32))), (.int (0 : Int32)), (.int (0 : Int32)), (.int (0 : Int32)), (.int (0 : Int32))] (.int (0 : Int32)) := by have q := V144; rw [own_nara] at q; exact q
    have K144 : Keep h0 h144 [] := K140.wr W144 (Or.inr sz_b129)
    have N144 := Fr.snoc X144 N142 g_b129
    have Z144 : n0 ≤ h144.size := Nat.le_trans Z140 (Keep.of_wr W144).1
    obtain ⟨_, _, ⟨T145, L145, k145, n145⟩, -, X145, ⟨Lc145, hQ145, l145, y145, z145⟩, st145⟩ := Jvm.LawKit.callS X144 hx (y := (⟨"com/example/assaybus/assaybus/link/FrameChecksumPinLaw", "at", "(JI)B"⟩ : MethodName)) hown (mvT hZ (hw _ (List.mem_of_getElem? (i := 6) rfl))) (mvT hZ (hw _ (List.mem_of_getElem? (i := 7) rfl))) (mvT hZ (hw _ (List.mem_of_getElem? (i := 8) rfl))) (mvT hZ (hw _ (List.mem_of_getElem? (i := 9) rfl))) (by decide) (backOf (W := 1) (own_mat l Z a0 hw [] q1 (3 : Int32)  h144 n0 Z144 ) hZ (hw _ (List.mem_of_getElem? (i := 9) rfl)) (hw _ (List.mem_of_getElem? (i := 8) rfl)) (by decide) (by decide)) (g := (mkF m 105 #[.val (.int p1), .val (.long q1), .second, .val (.int (8 : Int32)), .val (.ref b129), .val (.int ((((0 : Int32) + (own_at q1 (0 : Int32))) + (own_at q1 (1 : Int32))) + (own_at q1 (2 : Int32)))), .unset] [(.int (3 : Int32)), (.long q1), (.int ((((0 : Int32) + (own_at q1 (0 : Int32))) + (own_at q1 (1 : Int32))) + (own_at q1 (2 : Int32))))])) rfl (by rw [hml]; rfl) (argsL := [(.long q1), (.int (3 : Int32))]) (rest := [(.int ((((0 : Int32) + (own_at q1 (0 : Int32))) + (own_at q1 (1 : Int32))) + (own_at q1 (2 : Int32))))]) (lenOf pd__JI_B rfl) rfl (by show 2 * 0 + _ ≤ _; exact Nat.le_of_eq rfl) (hb hby at_105) (fun _ _ => ⟨rfl, e144, (by decide : 1 + 0 ≤ _), (by decide : 8 + 0 ≤ _)⟩)
    dsimp only [Pt.U, Pt.locs, Pt.cells, Pt.slots] at X145 l145 y145 z145 st145 hQ145
    replace X145 := X145.more (Nat.le_of_eq (show k145 = 1 from y145)) (Nat.le_of_eq (show n145 = 8 from z145))
    obtain ⟨rfl, Nq145, e145⟩ := hQ145
    have N145 : Fr n0 L145 := by rw [l145]; exact Fr.app N144 Nq145
    obtain ⟨_, _, ⟨T146, L146, k146, n146⟩, -, X146, ⟨Lc146, hQ146, l146, y146, z146⟩, st146⟩ := Jvm.LawKit.callS X145 hx (y := (⟨"com/example/assaybus/assaybus/link/FrameChecksumPinLaw", "at", "(JI)B"⟩ : MethodName)) hown (mvT hZ (hw _ (List.mem_of_getElem? (i := 6) rfl))) (mvT hZ (hw _ (List.mem_of_getElem? (i := 7) rfl))) (mvT hZ (hw _ (List.mem_of_getElem? (i := 8) rfl))) (mvT hZ (hw _ (List.mem_of_getElem? (i := 9) rfl))) (by decide) (backOf (W := 2) (own_mat l Z a0 hw [] q1 (4 : Int32)  h144 n0 Z144 ) hZ (hw _ (List.mem_of_getElem? (i := 9) rfl)) (hw _ (List.mem_of_getElem? (i := 8) rfl)) (by decide) (by decide)) (g := (mkF m 121 #[.val (.int p1), .val (.long q1), .second, .val (.int (8 : Int32)), .val (.ref b129), .val (.int (((((0 : Int32) + (own_at q1 (0 : Int32))) + (own_at q1 (1 : Int32))) + (own_at q1 (2 : Int32))) + (own_at q1 (3 : Int32)))), .unset] [(.int (4 : Int32)), (.long q1), (.int (4 : Int32)), (.ref b129)])) rfl (by rw [hml]; rfl) (argsL := [(.long q1), (.int (4 : Int32))]) (rest := [(.int (4 : Int32)), (.ref b129)]) (lenOf pd__JI_B rfl) rfl (by show 2 * 0 + _ ≤ _; exact Nat.le_of_eq rfl) (hb hby at_121) (fun _ _ => ⟨rfl, e145, (by decide : 1 + 0 ≤ _), (by decide : 8 + 0 ≤ _)⟩)
    dsimp only [Pt.U, Pt.locs, Pt.cells, Pt.slots] at X146 l146 y146 z146 st146 hQ146
    replace X146 := X146.more (Nat.le_of_eq (show k146 = 1 from y146)) (Nat.le_of_eq (show n146 = 8 from z146))
    obtain ⟨rfl, Nq146, e146⟩ := hQ146
    have N146 : Fr n0 L146 := by rw [l146]; exact Fr.app N145 Nq146
    obtain ⟨cl147, Ar147, qc147, S147, Nn147, H147, G147⟩ := id V144v
    have hin147 : ¬ ((4 : Int32) < 0 ∨ cl147.slots.size ≤ ((4 : Int32)).toNatClampNeg) := inb_of S147 ⟨by decide, by decide⟩
    obtain ⟨T148, h148, X148, e148, W148, st148⟩ := stB X146 hx hZ e146 Ar147 (j := (4 : Int32)) hin147 (g := (mkF m 124 #[.val (.int p1), .val (.long q1), .second, .val (.int (8 : Int32)), .val (.ref b129), .val (.int (((((0 : Int32) + (own_at q1 (0 : Int32))) + (own_at q1 (1 : Int32))) + (own_at q1 (2 : Int32))) + (own_at q1 (3 : Int32)))), .unset] [(.int (own_at q1 (4 : Int32))), (.int (4 : Int32)), (.ref b129)])) rfl rfl (hb hby at_124)
    have V148 : Arv Z h148 b129 k129 .byte (8 : Int32) [(.int (own_at q1 (0 : Int32))), (.int (own_at q1 (1 : Int32))), (.int (own_at q1 (2 : Int32))), (.int (own_at q1 (3 : Int32))), (.int (nar .byte (own_at q1 (4 : Int32)))), (.int (0 : Int32)), (.int (0 : Int32)), (.int (0 : Int32))] (.int (0 : Int32)) := Arv.set Ar147 qc147 S147 Nn147 H147 G147 (fits_nar_byte _) W148 4 rfl (Nat.le_of_ble_eq_true rfl)
    have V148v : Arv Z h148 b129 k129 .byte (8 : Int32) [(.int (own_at q1 (0 : Int32))), (.int (own_at q1 (1 : Int32))), (.int (own_at q1 (2 : Int32))), (.int (own_at q1 (3 : Int32))), (.int (own_at q1 (4 : Int32))), (.int (0 : Int32)), (.int (0 : Int32)), (.int (0 : Int32))] (.int (0 : Int32)) := by have q := V148; rw [own_nara] at q; exact q
    have K148 : Keep h0 h148 [] := K144.wr W148 (Or.inr sz_b129)
    have N148 := Fr.snoc X148 N146 g_b129
    have Z148 : n0 ≤ h148.size := Nat.le_trans Z144 (Keep.of_wr W148).1
    obtain ⟨_, _, ⟨T149, L149, k149, n149⟩, -, X149, ⟨Lc149, hQ149, l149, y149, z149⟩, st149⟩ := Jvm.LawKit.callS X148 hx (y := (⟨"com/example/assaybus/assaybus/link/FrameChecksumPinLaw", "at", "(JI)B"⟩ : MethodName)) hown (mvT hZ (hw _ (List.mem_of_getElem? (i := 6) rfl))) (mvT hZ (hw _ (List.mem_of_getElem? (i := 7) rfl))) (mvT hZ (hw _ (List.mem_of_getElem? (i := 8) rfl))) (mvT hZ (hw _ (List.mem_of_getElem? (i := 9) rfl))) (by decide) (backOf (W := 1) (own_mat l Z a0 hw [] q1 (4 : Int32)  h148 n0 Z148 ) hZ (hw _ (List.mem_of_getElem? (i := 9) rfl)) (hw _ (List.mem_of_getElem? (i := 8) rfl)) (by decide) (by decide)) (g := (mkF m 129 #[.val (.int p1), .val (.long q1), .second, .val (.int (8 : Int32)), .val (.ref b129), .val (.int (((((0 : Int32) + (own_at q1 (0 : Int32))) + (own_at q1 (1 : Int32))) + (own_at q1 (2 : Int32))) + (own_at q1 (3 : Int32)))), .unset] [(.int (4 : Int32)), (.long q1), (.int (((((0 : Int32) + (own_at q1 (0 : Int32))) + (own_at q1 (1 : Int32))) + (own_at q1 (2 : Int32))) + (own_at q1 (3 : Int32))))])) rfl (by rw [hml]; rfl) (argsL := [(.long q1), (.int (4 : Int32))]) (rest := [(.int (((((0 : Int32) + (own_at q1 (0 : Int32))) + (own_at q1 (1 : Int32))) + (own_at q1 (2 : Int32))) + (own_at q1 (3 : Int32))))]) (lenOf pd__JI_B rfl) rfl (by show 2 * 0 + _ ≤ _; exact Nat.le_of_eq rfl) (hb hby at_129) (fun _ _ => ⟨rfl, e148, (by decide : 1 + 0 ≤ _), (by decide : 8 + 0 ≤ _)⟩)
    dsimp only [Pt.U, Pt.locs, Pt.cells, Pt.slots] at X149 l149 y149 z149 st149 hQ149
    replace X149 := X149.more (Nat.le_of_eq (show k149 = 1 from y149)) (Nat.le_of_eq (show n149 = 8 from z149))
    obtain ⟨rfl, Nq149, e149⟩ := hQ149
    have N149 : Fr n0 L149 := by rw [l149]; exact Fr.app N148 Nq149
    obtain ⟨_, _, ⟨T150, L150, k150, n150⟩, -, X150, ⟨Lc150, hQ150, l150, y150, z150⟩, st150⟩ := Jvm.LawKit.callS X149 hx (y := (⟨"com/example/assaybus/assaybus/link/FrameChecksumPinLaw", "at", "(JI)B"⟩ : MethodName)) hown (mvT hZ (hw _ (List.mem_of_getElem? (i := 6) rfl))) (mvT hZ (hw _ (List.mem_of_getElem? (i := 7) rfl))) (mvT hZ (hw _ (List.mem_of_getElem? (i := 8) rfl))) (mvT hZ (hw _ (List.mem_of_getElem? (i := 9) rfl))) (by decide) (backOf (W := 2) (own_mat l Z a0 hw [] q1 (5 : Int32)  h148 n0 Z148 ) hZ (hw _ (List.mem_of_getElem? (i := 9) rfl)) (hw _ (List.mem_of_getElem? (i := 8) rfl)) (by decide) (by decide)) (g := (mkF m 145 #[.val (.int p1), .val (.long q1), .second, .val (.int (8 : Int32)), .val (.ref b129), .val (.int ((((((0 : Int32) + (own_at q1 (0 : Int32))) + (own_at q1 (1 : Int32))) + (own_at q1 (2 : Int32))) + (own_at q1 (3 : Int32))) + (own_at q1 (4 : Int32)))), .unset] [(.int (5 : Int32)), (.long q1), (.int (5 : Int32)), (.ref b129)])) rfl (by rw [hml]; rfl) (argsL := [(.long q1), (.int (5 : Int32))]) (rest := [(.int (5 : Int32)), (.ref b129)]) (lenOf pd__JI_B rfl) rfl (by show 2 * 0 + _ ≤ _; exact Nat.le_of_eq rfl) (hb hby at_145) (fun _ _ => ⟨rfl, e149, (by decide : 1 + 0 ≤ _), (by decide : 8 + 0 ≤ _)⟩)
    dsimp only [Pt.U, Pt.locs, Pt.cells, Pt.slots] at X150 l150 y150 z150 st150 hQ150
    replace X150 := X150.more (Nat.le_of_eq (show k150 = 1 from y150)) (Nat.le_of_eq (show n150 = 8 from z150))
    obtain ⟨rfl, Nq150, e150⟩ := hQ150
    have N150 : Fr n0 L150 := by rw [l150]; exact Fr.app N149 Nq150
    obtain ⟨cl151, Ar151, qc151, S151, Nn151, H151, G151⟩ := id V148v
    have hin151 : ¬ ((5 : Int32) < 0 ∨ cl151.slots.size ≤ ((5 : Int32)).toNatClampNeg) := inb_of S151 ⟨by decide, by decide⟩
    obtain ⟨T152, h152, X152, e152, W152, st152⟩ := stB X150 hx hZ e150 Ar151 (j := (5 : Int32)) hin151 (g := (mkF m 148 #[.val (.int p1), .val (.long q1), .second, .val (.int (8 : Int32)), .val (.ref b129), .val (.int ((((((0 : Int32) + (own_at q1 (0 : Int32))) + (own_at q1 (1 : Int32))) + (own_at q1 (2 : Int32))) + (own_at q1 (3 : Int32))) + (own_at q1 (4 : Int32)))), .unset] [(.int (own_at q1 (5 : Int32))), (.int (5 : Int32)), (.ref b129)])) rfl rfl (hb hby at_148)
    have V152 : Arv Z h152 b129 k129 .byte (8 : Int32) [(.int (own_at q1 (0 : Int32))), (.int (own_at q1 (1 : Int32))), (.int (own_at q1 (2 : Int32))), (.int (own_at q1 (3 : Int32))), (.int (own_at q1 (4 : Int32))), (.int (nar .byte (own_at q1 (5 : Int32)))), (.int (0 : Int32)), (.int (0 : Int32))] (.int (0 : Int32)) := Arv.set Ar151 qc151 S151 Nn151 H151 G151 (fits_nar_byte _) W152 5 rfl (Nat.le_of_ble_eq_true rfl)
    have V152v : Arv Z h152 b129 k129 .byte (8 : Int32) [(.int (own_at q1 (0 : Int32))), (.int (own_at q1 (1 : Int32))), (.int (own_at q1 (2 : Int32))), (.int (own_at q1 (3 : Int32))), (.int (own_at q1 (4 : Int32))), (.int (own_at q1 (5 : Int32))), (.int (0 : Int32)), (.int (0 : Int32))] (.int (0 : Int32)) := by have q := V152; rw [own_nara] at q; exact q
    have K152 : Keep h0 h152 [] := K148.wr W152 (Or.inr sz_b129)
    have N152 := Fr.snoc X152 N150 g_b129
    have Z152 : n0 ≤ h152.size := Nat.le_trans Z148 (Keep.of_wr W152).1
    obtain ⟨_, _, ⟨T153, L153, k153, n153⟩, -, X153, ⟨Lc153, hQ153, l153, y153, z153⟩, st153⟩ := Jvm.LawKit.callS X152 hx (y := (⟨"com/example/assaybus/assaybus/link/FrameChecksumPinLaw", "at", "(JI)B"⟩ : MethodName)) hown (mvT hZ (hw _ (List.mem_of_getElem? (i := 6) rfl))) (mvT hZ (hw _ (List.mem_of_getElem? (i := 7) rfl))) (mvT hZ (hw _ (List.mem_of_getElem? (i := 8) rfl))) (mvT hZ (hw _ (List.mem_of_getElem? (i := 9) rfl))) (by decide) (backOf (W := 1) (own_mat l Z a0 hw [] q1 (5 : Int32)  h152 n0 Z152 ) hZ (hw _ (List.mem_of_getElem? (i := 9) rfl)) (hw _ (List.mem_of_getElem? (i := 8) rfl)) (by decide) (by decide)) (g := (mkF m 153 #[.val (.int p1), .val (.long q1), .second, .val (.int (8 : Int32)), .val (.ref b129), .val (.int ((((((0 : Int32) + (own_at q1 (0 : Int32))) + (own_at q1 (1 : Int32))) + (own_at q1 (2 : Int32))) + (own_at q1 (3 : Int32))) + (own_at q1 (4 : Int32)))), .unset] [(.int (5 : Int32)), (.long q1), (.int ((((((0 : Int32) + (own_at q1 (0 : Int32))) + (own_at q1 (1 : Int32))) + (own_at q1 (2 : Int32))) + (own_at q1 (3 : Int32))) + (own_at q1 (4 : Int32))))])) rfl (by rw [hml]; rfl) (argsL := [(.long q1), (.int (5 : Int32))]) (rest := [(.int ((((((0 : Int32) + (own_at q1 (0 : Int32))) + (own_at q1 (1 : Int32))) + (own_at q1 (2 : Int32))) + (own_at q1 (3 : Int32))) + (own_at q1 (4 : Int32))))]) (lenOf pd__JI_B rfl) rfl (by show 2 * 0 + _ ≤ _; exact Nat.le_of_eq rfl) (hb hby at_153) (fun _ _ => ⟨rfl, e152, (by decide : 1 + 0 ≤ _), (by decide : 8 + 0 ≤ _)⟩)
    dsimp only [Pt.U, Pt.locs, Pt.cells, Pt.slots] at X153 l153 y153 z153 st153 hQ153
    replace X153 := X153.more (Nat.le_of_eq (show k153 = 1 from y153)) (Nat.le_of_eq (show n153 = 8 from z153))
    obtain ⟨rfl, Nq153, e153⟩ := hQ153
    have N153 : Fr n0 L153 := by rw [l153]; exact Fr.app N152 Nq153
    obtain ⟨_, _, ⟨T154, L154, k154, n154⟩, -, X154, ⟨Lc154, hQ154, l154, y154, z154⟩, st154⟩ := Jvm.LawKit.callS X153 hx (y := (⟨"com/example/assaybus/assaybus/link/FrameChecksumPinLaw", "at", "(JI)B"⟩ : MethodName)) hown (mvT hZ (hw _ (List.mem_of_getElem? (i := 6) rfl))) (mvT hZ (hw _ (List.mem_of_getElem? (i := 7) rfl))) (mvT hZ (hw _ (List.mem_of_getElem? (i := 8) rfl))) (mvT hZ (hw _ (List.mem_of_getElem? (i := 9) rfl))) (by decide) (backOf (W := 2) (own_mat l Z a0 hw [] q1 (6 : Int32)  h152 n0 Z152 ) hZ (hw _ (List.mem_of_getElem? (i := 9) rfl)) (hw _ (List.mem_of_getElem? (i := 8) rfl)) (by decide) (by decide)) (g := (mkF m 172 #[.val (.int p1), .val (.long q1), .second, .val (.int (8 : Int32)), .val (.ref b129), .val (.int (((((((0 : Int32) + (own_at q1 (0 : Int32))) + (own_at q1 (1 : Int32))) + (own_at q1 (2 : Int32))) + (own_at q1 (3 : Int32))) + (own_at q1 (4 : Int32))) + (own_at q1 (5 : Int32)))), .unset] [(.int (6 : Int32)), (.long q1), (.int (6 : Int32)), (.ref b129)])) rfl (by rw [hml]; rfl) (argsL := [(.long q1), (.int (6 : Int32))]) (rest := [(.int (6 : Int32)), (.ref b129)]) (lenOf pd__JI_B rfl) rfl (by show 2 * 0 + _ ≤ _; exact Nat.le_of_eq rfl) (hb hby at_172) (fun _ _ => ⟨rfl, e153, (by decide : 1 + 0 ≤ _), (by decide : 8 + 0 ≤ _)⟩)
    dsimp only [Pt.U, Pt.locs, Pt.cells, Pt.slots] at X154 l154 y154 z154 st154 hQ154
    replace X154 := X154.more (Nat.le_of_eq (show k154 = 1 from y154)) (Nat.le_of_eq (show n154 = 8 from z154))
    obtain ⟨rfl, Nq154, e154⟩ := hQ154
    have N154 : Fr n0 L154 := by rw [l154]; exact Fr.app N153 Nq154
    obtain ⟨cl155, Ar155, qc155, S155, Nn155, H155, G155⟩ := id V152v
    have hin155 : ¬ ((6 : Int32) < 0 ∨ cl155.slots.size ≤ ((6 : Int32)).toNatClampNeg) := inb_of S155 ⟨by decide, by decide⟩
    obtain ⟨T156, h156, X156, e156, W156, st156⟩ := stB X154 hx hZ e154 Ar155 (j := (6 : Int32)) hin155 (g := (mkF m 175 #[.val (.int p1), .val (.long q1), .second, .val (.int (8 : Int32)), .val (.ref b129), .val (.int (((((((0 : Int32) + (own_at q1 (0 : Int32))) + (own_at q1 (1 : Int32))) + (own_at q1 (2 : Int32))) + (own_at q1 (3 : Int32))) + (own_at q1 (4 : Int32))) + (own_at q1 (5 : Int32)))), .unset] [(.int (own_at q1 (6 : Int32))), (.int (6 : Int32)), (.ref b129)])) rfl rfl (hb hby at_175)
    have V156 : Arv Z h156 b129 k129 .byte (8 : Int32) [(.int (own_at q1 (0 : Int32))), (.int (own_at q1 (1 : Int32))), (.int (own_at q1 (2 : Int32))), (.int (own_at q1 (3 : Int32))), (.int (own_at q1 (4 : Int32))), (.int (own_at q1 (5 : Int32))), (.int (nar .byte (own_at q1 (6 : Int32)))), (.int (0 : Int32))] (.int (0 : Int32)) := Arv.set Ar155 qc155 S155 Nn155 H155 G155 (fits_nar_byte _) W156 6 rfl (Nat.le_of_ble_eq_true rfl)
    have V156v : Arv Z h156 b129 k129 .byte (8 : Int32) [(.int (own_at q1 (0 : Int32))), (.int (own_at q1 (1 : Int32))), (.int (own_at q1 (2 : Int32))), (.int (own_at q1 (3 : Int32))), (.int (own_at q1 (4 : Int32))), (.int (own_at q1 (5 : Int32))), (.int (own_at q1 (6 : Int32))), (.int (0 : Int32))] (.int (0 : Int32)) := by have q := V156; rw [own_nara] at q; exact q
    have K156 : Keep h0 h156 [] := K152.wr W156 (Or.inr sz_b129)
    have N156 := Fr.snoc X156 N154 g_b129
    have Z156 : n0 ≤ h156.size := Nat.le_trans Z152 (Keep.of_wr W156).1
    obtain ⟨_, _, ⟨T157, L157, k157, n157⟩, -, X157, ⟨Lc157, hQ157, l157, y157, z157⟩, st157⟩ := Jvm.LawKit.callS X156 hx (y := (⟨"com/example/assaybus/assaybus/link/FrameChecksumPinLaw", "at", "(JI)B"⟩ : MethodName)) hown (mvT hZ (hw _ (List.mem_of_getElem? (i := 6) rfl))) (mvT hZ (hw _ (List.mem_of_getElem? (i := 7) rfl))) (mvT hZ (hw _ (List.mem_of_getElem? (i := 8) rfl))) (mvT hZ (hw _ (List.mem_of_getElem? (i := 9) rfl))) (by decide) (backOf (W := 1) (own_mat l Z a0 hw [] q1 (6 : Int32)  h156 n0 Z156 ) hZ (hw _ (List.mem_of_getElem? (i := 9) rfl)) (hw _ (List.mem_of_getElem? (i := 8) rfl)) (by decide) (by decide)) (g := (mkF m 181 #[.val (.int p1), .val (.long q1), .second, .val (.int (8 : Int32)), .val (.ref b129), .val (.int (((((((0 : Int32) + (own_at q1 (0 : Int32))) + (own_at q1 (1 : Int32))) + (own_at q1 (2 : Int32))) + (own_at q1 (3 : Int32))) + (own_at q1 (4 : Int32))) + (own_at q1 (5 : Int32)))), .unset] [(.int (6 : Int32)), (.long q1), (.int (((((((0 : Int32) + (own_at q1 (0 : Int32))) + (own_at q1 (1 : Int32))) + (own_at q1 (2 : Int32))) + (own_at q1 (3 : Int32))) + (own_at q1 (4 : Int32))) + (own_at q1 (5 : Int32))))])) rfl (by rw [hml]; rfl) (argsL := [(.long q1), (.int (6 : Int32))]) (rest := [(.int (((((((0 : Int32) + (own_at q1 (0 : Int32))) + (own_at q1 (1 : Int32))) + (own_at q1 (2 : Int32))) + (own_at q1 (3 : Int32))) + (own_at q1 (4 : Int32))) + (own_at q1 (5 : Int32))))]) (lenOf pd__JI_B rfl) rfl (by show 2 * 0 + _ ≤ _; exact Nat.le_of_eq rfl) (hb hby at_181) (fun _ _ => ⟨rfl, e156, (by decide : 1 + 0 ≤ _), (by decide : 8 + 0 ≤ _)⟩)
    dsimp only [Pt.U, Pt.locs, Pt.cells, Pt.slots] at X157 l157 y157 z157 st157 hQ157
    replace X157 := X157.more (Nat.le_of_eq (show k157 = 1 from y157)) (Nat.le_of_eq (show n157 = 8 from z157))
    obtain ⟨rfl, Nq157, e157⟩ := hQ157
    have N157 : Fr n0 L157 := by rw [l157]; exact Fr.app N156 Nq157
    obtain ⟨_, _, ⟨T158, L158, k158, n158⟩, -, X158, ⟨Lc158, hQ158, l158, y158, z158⟩, st158⟩ := Jvm.LawKit.callS X157 hx (y := (⟨"com/example/assaybus/assaybus/link/FrameChecksumPinLaw", "at", "(JI)B"⟩ : MethodName)) hown (mvT hZ (hw _ (List.mem_of_getElem? (i := 6) rfl))) (mvT hZ (hw _ (List.mem_of_getElem? (i := 7) rfl))) (mvT hZ (hw _ (List.mem_of_getElem? (i := 8) rfl))) (mvT hZ (hw _ (List.mem_of_getElem? (i := 9) rfl))) (by decide) (backOf (W := 2) (own_mat l Z a0 hw [] q1 (7 : Int32)  h156 n0 Z156 ) hZ (hw _ (List.mem_of_getElem? (i := 9) rfl)) (hw _ (List.mem_of_getElem? (i := 8) rfl)) (by decide) (by decide)) (g := (mkF m 200 #[.val (.int p1), .val (.long q1), .second, .val (.int (8 : Int32)), .val (.ref b129), .val (.int ((((((((0 : Int32) + (own_at q1 (0 : Int32))) + (own_at q1 (1 : Int32))) + (own_at q1 (2 : Int32))) + (own_at q1 (3 : Int32))) + (own_at q1 (4 : Int32))) + (own_at q1 (5 : Int32))) + (own_at q1 (6 : Int32)))), .unset] [(.int (7 : Int32)), (.long q1), (.int (7 : Int32)), (.ref b129)])) rfl (by rw [hml]; rfl) (argsL := [(.long q1), (.int (7 : Int32))]) (rest := [(.int (7 : Int32)), (.ref b129)]) (lenOf pd__JI_B rfl) rfl (by show 2 * 0 + _ ≤ _; exact Nat.le_of_eq rfl) (hb hby at_200) (fun _ _ => ⟨rfl, e157, (by decide : 1 + 0 ≤ _), (by decide : 8 + 0 ≤ _)⟩)
    dsimp only [Pt.U, Pt.locs, Pt.cells, Pt.slots] at X158 l158 y158 z158 st158 hQ158
    replace X158 := X158.more (Nat.le_of_eq (show k158 = 1 from y158)) (Nat.le_of_eq (show n158 = 8 from z158))
    obtain ⟨rfl, Nq158, e158⟩ := hQ158
    have N158 : Fr n0 L158 := by rw [l158]; exact Fr.app N157 Nq158
    obtain ⟨cl159, Ar159, qc159, S159, Nn159, H159, G159⟩ := id V156v
    have hin159 : ¬ ((7 : Int32) < 0 ∨ cl159.slots.size ≤ ((7 : Int32)).toNatClampNeg) := inb_of S159 ⟨by decide, by decide⟩
    obtain ⟨T160, h160, X160, e160, W160, st160⟩ := stB X158 hx hZ e158 Ar159 (j := (7 : Int32)) hin159 (g := (mkF m 203 #[.val (.int p1), .val (.long q1), .second, .val (.int (8 : Int32)), .val (.ref b129), .val (.int ((((((((0 : Int32) + (own_at q1 (0 : Int32))) + (own_at q1 (1 : Int32))) + (own_at q1 (2 : Int32))) + (own_at q1 (3 : Int32))) + (own_at q1 (4 : Int32))) + (own_at q1 (5 : Int32))) + (own_at q1 (6 : Int32)))), .unset] [(.int (own_at q1 (7 : Int32))), (.int (7 : Int32)), (.ref b129)])) rfl rfl (hb hby at_203)
    have V160 : Arv Z h160 b129 k129 .byte (8 : Int32) [(.int (own_at q1 (0 : Int32))), (.int (own_at q1 (1 : Int32))), (.int (own_at q1 (2 : Int32))), (.int (own_at q1 (3 : Int32))), (.int (own_at q1 (4 : Int32))), (.int (own_at q1 (5 : Int32))), (.int (own_at q1 (6 : Int32))), (.int (nar .byte (own_at q1 (7 : Int32))))] (.int (0 : Int32)) := Arv.set Ar159 qc159 S159 Nn159 H159 G159 (fits_nar_byte _) W160 7 rfl (Nat.le_of_ble_eq_true rfl)
    have V160v : Arv Z h160 b129 k129 .byte (8 : Int32) [(.int (own_at q1 (0 : Int32))), (.int (own_at q1 (1 : Int32))), (.int (own_at q1 (2 : Int32))), (.int (own_at q1 (3 : Int32))), (.int (own_at q1 (4 : Int32))), (.int (own_at q1 (5 : Int32))), (.int (own_at q1 (6 : Int32))), (.int (own_at q1 (7 : Int32)))] (.int (0 : Int32)) := by have q := V160; rw [own_nara] at q; exact q
    have K160 : Keep h0 h160 [] := K156.wr W160 (Or.inr sz_b129)
    have N160 := Fr.snoc X160 N158 g_b129
    have Z160 : n0 ≤ h160.size := Nat.le_trans Z156 (Keep.of_wr W160).1
    obtain ⟨_, _, ⟨T161, L161, k161, n161⟩, -, X161, ⟨Lc161, hQ161, l161, y161, z161⟩, st161⟩ := Jvm.LawKit.callS X160 hx (y := (⟨"com/example/assaybus/assaybus/link/FrameChecksumPinLaw", "at", "(JI)B"⟩ : MethodName)) hown (mvT hZ (hw _ (List.mem_of_getElem? (i := 6) rfl))) (mvT hZ (hw _ (List.mem_of_getElem? (i := 7) rfl))) (mvT hZ (hw _ (List.mem_of_getElem? (i := 8) rfl))) (mvT hZ (hw _ (List.mem_of_getElem? (i := 9) rfl))) (by decide) (backOf (W := 1) (own_mat l Z a0 hw [] q1 (7 : Int32)  h160 n0 Z160 ) hZ (hw _ (List.mem_of_getElem? (i := 9) rfl)) (hw _ (List.mem_of_getElem? (i := 8) rfl)) (by decide) (by decide)) (g := (mkF m 209 #[.val (.int p1), .val (.long q1), .second, .val (.int (8 : Int32)), .val (.ref b129), .val (.int ((((((((0 : Int32) + (own_at q1 (0 : Int32))) + (own_at q1 (1 : Int32))) + (own_at q1 (2 : Int32))) + (own_at q1 (3 : Int32))) + (own_at q1 (4 : Int32))) + (own_at q1 (5 : Int32))) + (own_at q1 (6 : Int32)))), .unset] [(.int (7 : Int32)), (.long q1), (.int ((((((((0 : Int32) + (own_at q1 (0 : Int32))) + (own_at q1 (1 : Int32))) + (own_at q1 (2 : Int32))) + (own_at q1 (3 : Int32))) + (own_at q1 (4 : Int32))) + (own_at q1 (5 : Int32))) + (own_at q1 (6 : Int32))))])) rfl (by rw [hml]; rfl) (argsL := [(.long q1), (.int (7 : Int32))]) (rest := [(.int ((((((((0 : Int32) + (own_at q1 (0 : Int32))) + (own_at q1 (1 : Int32))) + (own_at q1 (2 : Int32))) + (own_at q1 (3 : Int32))) + (own_at q1 (4 : Int32))) + (own_at q1 (5 : Int32))) + (own_at q1 (6 : Int32))))]) (lenOf pd__JI_B rfl) rfl (by show 2 * 0 + _ ≤ _; exact Nat.le_of_eq rfl) (hb hby at_209) (fun _ _ => ⟨rfl, e160, (by decide : 1 + 0 ≤ _), (by decide : 8 + 0 ≤ _)⟩)
    dsimp only [Pt.U, Pt.locs, Pt.cells, Pt.slots] at X161 l161 y161 z161 st161 hQ161
    replace X161 := X161.more (Nat.le_of_eq (show k161 = 1 from y161)) (Nat.le_of_eq (show n161 = 8 from z161))
    obtain ⟨rfl, Nq161, e161⟩ := hQ161
    have N161 : Fr n0 L161 := by rw [l161]; exact Fr.app N160 Nq161
    obtain ⟨_, _, ⟨T162, L162, k162, n162⟩, -, X162, ⟨Lc162, hQ162, l162, y162, z162⟩, st162⟩ := Jvm.LawKit.callS X161 hx (y := (⟨"com/example/assaybus/assaybus/link/Frame", "checksum", "([B)I"⟩ : MethodName)) hown (mvT hZ (hw _ (List.mem_of_getElem? (i := 2) rfl))) (mvT hZ (hw _ (List.mem_of_getElem? (i := 3) rfl))) (mvT hZ (hw _ (List.mem_of_getElem? (i := 4) rfl))) (mvT hZ (hw _ (List.mem_of_getElem? (i := 5) rfl))) (by decide) (backOf (W := 0) (own_sumof l Z a0 hw [] b129 k129 (8 : Int32) [(own_at q1 (0 : Int32)), (own_at q1 (1 : Int32)), (own_at q1 (2 : Int32)), (own_at q1 (3 : Int32)), (own_at q1 (4 : Int32)), (own_at q1 (5 : Int32)), (own_at q1 (6 : Int32)), (own_at q1 (7 : Int32))] h160 n0 Z160 V160v rfl) hZ (hw _ (List.mem_of_getElem? (i := 5) rfl)) (hw _ (List.mem_of_getElem? (i := 4) rfl)) (by decide) (by decide)) (g := (mkF m 217 #[.val (.int p1), .val (.long q1), .second, .val (.int (8 : Int32)), .val (.ref b129), .val (.int (((((((((0 : Int32) + (own_at q1 (0 : Int32))) + (own_at q1 (1 : Int32))) + (own_at q1 (2 : Int32))) + (own_at q1 (3 : Int32))) + (own_at q1 (4 : Int32))) + (own_at q1 (5 : Int32))) + (own_at q1 (6 : Int32))) + (own_at q1 (7 : Int32)))), .unset] [(.ref b129)])) rfl (by rw [hml]; rfl) (argsL := [(.ref b129)]) (rest := []) (lenOf pd___B_I rfl) rfl (by show 2 * 0 + _ ≤ _; exact Nat.le_of_eq rfl) (hb hby at_217) (fun _ _ => ⟨rfl, e161, (by decide : 1 + 0 ≤ _), (by decide : 8 + 0 ≤ _)⟩)
    dsimp only [Pt.U, Pt.locs, Pt.cells, Pt.slots] at X162 l162 y162 z162 st162 hQ162
    replace X162 := X162.more (Nat.le_of_eq (show k162 = 1 from y162)) (Nat.le_of_eq (show n162 = 8 from z162))
    obtain ⟨rfl, Nq162, e162⟩ := hQ162
    have N162 : Fr n0 L162 := by rw [l162]; exact Fr.app N161 Nq162
    obtain ⟨fs, hr, hrun, hended, hW, hsame⟩ := X162.leave (v := some (.int (1 : Int32))) (fun h => by rw [Bd.returns] at h; cases h)
    refine ⟨_, _, pre0 _ ?_, hrun, hended, _, _, rfl, ?_, ⟨_, rfl⟩, hW, hsame.mono (by decide) (by decide)⟩
    · show Steps p.tables e below (s₁.setTop (mkF m 0 #[.val (.int p1), .val (.long q1), .second, .unset, .unset, .unset, .unset] [])) _
      refine XS.iloadN X0.here hx rfl (hb hby at_0) rfl ?_
      show Steps p.tables e below (s₁.setTop (mkF m 1 #[.val (.int p1), .val (.long q1), .second, .unset, .unset, .unset, .unset] [(.int p1)])) _
      refine X0.ldcInt hx hown (mvT hZ (hw _ (List.mem_of_getElem? (i := 0) rfl))) (g := (mkF m 1 #[.val (.int p1), .val (.long q1), .second, .unset, .unset, .unset, .unset] [(.int p1)])) rfl (hb hby at_1) _ ?_
      show Steps p.tables e below (s₁.setTop (mkF m 3 #[.val (.int p1), .val (.long q1), .second, .unset, .unset, .unset, .unset] [(.int (2147483647 : Int32)), (.int p1)])) _
      refine XS.iand X0.here hx rfl (hb hby at_3) rfl ?_
      show Steps p.tables e below (s₁.setTop (mkF m 4 #[.val (.int p1), .val (.long q1), .second, .unset, .unset, .unset, .unset] [(.int (p1 &&& (2147483647 : Int32)))])) _
      refine XS.bipush X0.here hx rfl (hb hby at_4) ?_
      show Steps p.tables e below (s₁.setTop (mkF m 6 #[.val (.int p1), .val (.long q1), .second, .unset, .unset, .unset, .unset] [(.int (9 : Int32)), (.int (p1 &&& (2147483647 : Int32)))])) _
      refine iremM X0 hx rfl (hb hby at_6) rfl (by decide) ?_
      show Steps p.tables e below (s₁.setTop (mkF m 7 #[.val (.int p1), .val (.long q1), .second, .unset, .unset, .unset, .unset] [(.int ((p1 &&& (2147483647 : Int32)) % (9 : Int32)))])) _
      rw [hl]
      show Steps p.tables e below (s₁.setTop (mkF m 7 #[.val (.int p1), .val (.long q1), .second, .unset, .unset, .unset, .unset] [(.int (8 : Int32))])) _
      refine XS.istoreN X0.here hx rfl (hb hby at_7) rfl (l' := #[.val (.int p1), .val (.long q1), .second, .val (.int (8 : Int32)), .unset, .unset, .unset]) rfl ?_
      show Steps p.tables e below (s₁.setTop (mkF m 8 #[.val (.int p1), .val (.long q1), .second, .val (.int (8 : Int32)), .unset, .unset, .unset] [])) _
      refine XS.iloadN X0.here hx rfl (hb hby at_8) rfl ?_
      show Steps p.tables e below (s₁.setTop (mkF m 9 #[.val (.int p1), .val (.long q1), .second, .val (.int (8 : Int32)), .unset, .unset, .unset] [(.int (8 : Int32))])) _
      refine st129 _ ?_
      show Steps p.tables e below (T129.setTop (mkF m 11 #[.val (.int p1), .val (.long q1), .second, .val (.int (8 : Int32)), .unset, .unset, .unset] [(.ref b129)])) _
      refine XS.astore X129.here hx rfl (hb hby at_11) rfl rfl (l' := #[.val (.int p1), .val (.long q1), .second, .val (.int (8 : Int32)), .val (.ref b129), .unset, .unset]) rfl ?_
      show Steps p.tables e below (T129.setTop (mkF m 13 #[.val (.int p1), .val (.long q1), .second, .val (.int (8 : Int32)), .val (.ref b129), .unset, .unset] [])) _
      refine XS.iconst X129.here hx rfl (hb hby at_13) ?_
      show Steps p.tables e below (T129.setTop (mkF m 14 #[.val (.int p1), .val (.long q1), .second, .val (.int (8 : Int32)), .val (.ref b129), .unset, .unset] [(.int (0 : Int32))])) _
      refine XS.istore X129.here hx rfl (hb hby at_14) rfl (l' := #[.val (.int p1), .val (.long q1), .second, .val (.int (8 : Int32)), .val (.ref b129), .val (.int (0 : Int32)), .unset]) rfl ?_
      show Steps p.tables e below (T129.setTop (mkF m 16 #[.val (.int p1), .val (.long q1), .second, .val (.int (8 : Int32)), .val (.ref b129), .val (.int (0 : Int32)), .unset] [])) _
      refine XS.iloadN X129.here hx rfl (hb hby at_16) rfl ?_
      show Steps p.tables e below (T129.setTop (mkF m 17 #[.val (.int p1), .val (.long q1), .second, .val (.int (8 : Int32)), .val (.ref b129), .val (.int (0 : Int32)), .unset] [(.int (8 : Int32))])) _
      refine XS.ifNo X129.here hx rfl (hb hby at_17) rfl ((if0 _ _).trans (tlt (by decide : (0 : Int32) < (8 : Int32))).2.2.2) ?_
      show Steps p.tables e below (T129.setTop (mkF m 20 #[.val (.int p1), .val (.long q1), .second, .val (.int (8 : Int32)), .val (.ref b129), .val (.int (0 : Int32)), .unset] [])) _
      refine XS.aload X129.here hx rfl (hb hby at_20) rfl rfl ?_
      show Steps p.tables e below (T129.setTop (mkF m 22 #[.val (.int p1), .val (.long q1), .second, .val (.int (8 : Int32)), .val (.ref b129), .val (.int (0 : Int32)), .unset] [(.ref b129)])) _
      refine XS.iconst X129.here hx rfl (hb hby at_22) ?_
      show Steps p.tables e below (T129.setTop (mkF m 23 #[.val (.int p1), .val (.long q1), .second, .val (.int (8 : Int32)), .val (.ref b129), .val (.int (0 : Int32)), .unset] [(.int (0 : Int32)), (.ref b129)])) _
      refine XS.lloadN X129.here hx rfl (hb hby at_23) rfl ?_
      show Steps p.tables e below (T129.setTop (mkF m 24 #[.val (.int p1), .val (.long q1), .second, .val (.int (8 : Int32)), .val (.ref b129), .val (.int (0 : Int32)), .unset] [(.long q1), (.int (0 : Int32)), (.ref b129)])) _
      refine XS.iconst X129.here hx rfl (hb hby at_24) ?_
      show Steps p.tables e below (T129.setTop (mkF m 25 #[.val (.int p1), .val (.long q1), .second, .val (.int (8 : Int32)), .val (.ref b129), .val (.int (0 : Int32)), .unset] [(.int (0 : Int32)), (.long q1), (.int (0 : Int32)), (.ref b129)])) _
      refine st130 _ ?_
      show Steps p.tables e below (T130.setTop (mkF m 28 #[.val (.int p1), .val (.long q1), .second, .val (.int (8 : Int32)), .val (.ref b129), .val (.int (0 : Int32)), .unset] [(.int (own_at q1 (0 : Int32))), (.int (0 : Int32)), (.ref b129)])) _
      refine st132 _ ?_
      show Steps p.tables e below (T132.setTop (mkF m 29 #[.val (.int p1), .val (.long q1), .second, .val (.int (8 : Int32)), .val (.ref b129), .val (.int (0 : Int32)), .unset] [])) _
      refine XS.iload X132.here hx rfl (hb hby at_29) rfl ?_
      show Steps p.tables e below (T132.setTop (mkF m 31 #[.val (.int p1), .val (.long q1), .second, .val (.int (8 : Int32)), .val (.ref b129), .val (.int (0 : Int32)), .unset] [(.int (0 : Int32))])) _
      refine XS.lloadN X132.here hx rfl (hb hby at_31) rfl ?_
      show Steps p.tables e below (T132.setTop (mkF m 32 #[.val (.int p1), .val (.long q1), .second, .val (.int (8 : Int32)), .val (.ref b129), .val (.int (0 : Int32)), .unset] [(.long q1), (.int (0 : Int32))])) _
      refine XS.iconst X132.here hx rfl (hb hby at_32) ?_
      show Steps p.tables e below (T132.setTop (mkF m 33 #[.val (.int p1), .val (.long q1), .second, .val (.int (8 : Int32)), .val (.ref b129), .val (.int (0 : Int32)), .unset] [(.int (0 : Int32)), (.long q1), (.int (0 : Int32))])) _
      refine st133 _ ?_
      show Steps p.tables e below (T133.setTop (mkF m 36 #[.val (.int p1), .val (.long q1), .second, .val (.int (8 : Int32)), .val (.ref b129), .val (.int (0 : Int32)), .unset] [(.int (own_at q1 (0 : Int32))), (.int (0 : Int32))])) _
      refine XS.iadd X133.here hx rfl (hb hby at_36) rfl ?_
      show Steps p.tables e below (T133.setTop (mkF m 37 #[.val (.int p1), .val (.long q1), .second, .val (.int (8 : Int32)), .val (.ref b129), .val (.int (0 : Int32)), .unset] [(.int ((0 : Int32) + (own_at q1 (0 : Int32))))])) _
      refine XS.istore X133.here hx rfl (hb hby at_37) rfl (l' := #[.val (.int p1), .val (.long q1), .second, .val (.int (8 : Int32)), .val (.ref b129), .val (.int ((0 : Int32) + (own_at q1 (0 : Int32)))), .unset]) rfl ?_
      show Steps p.tables e below (T133.setTop (mkF m 39 #[.val (.int p1), .val (.long q1), .second, .val (.int (8 : Int32)), .val (.ref b129), .val (.int ((0 : Int32) + (own_at q1 (0 : Int32)))), .unset] [])) _
      refine XS.iloadN X133.here hx rfl (hb hby at_39) rfl ?_
      show Steps p.tables e below (T133.setTop (mkF m 40 #[.val (.int p1), .val (.long q1), .second, .val (.int (8 : Int32)), .val (.ref b129), .val (.int ((0 : Int32) + (own_at q1 (0 : Int32)))), .unset] [(.int (8 : Int32))])) _
      refine XS.iconst X133.here hx rfl (hb hby at_40) ?_
      show Steps p.tables e below (T133.setTop (mkF m 41 #[.val (.int p1), .val (.long q1), .second, .val (.int (8 : Int32)), .val (.ref b129), .val (.int ((0 : Int32) + (own_at q1 (0 : Int32)))), .unset] [(.int (1 : Int32)), (.int (8 : Int32))])) _
      refine XS.icmpNo X133.here hx rfl (hb hby at_41) rfl (tlt (by decide : (1 : Int32) < (8 : Int32))).2.2.2 ?_
      show Steps p.tables e below (T133.setTop (mkF m 44 #[.val (.int p1), .val (.long q1), .second, .val (.int (8 : Int32)), .val (.ref b129), .val (.int ((0 : Int32) + (own_at q1 (0 : Int32)))), .unset] [])) _
      refine XS.aload X133.here hx rfl (hb hby at_44) rfl rfl ?_
      show Steps p.tables e below (T133.setTop (mkF m 46 #[.val (.int p1), .val (.long q1), .second, .val (.int (8 : Int32)), .val (.ref b129), .val (.int ((0 : Int32) + (own_at q1 (0 : Int32)))), .unset] [(.ref b129)])) _
      refine XS.iconst X133.here hx rfl (hb hby at_46) ?_
      show Steps p.tables e below (T133.setTop (mkF m 47 #[.val (.int p1), .val (.long q1), .second, .val (.int (8 : Int32)), .val (.ref b129), .val (.int ((0 : Int32) + (own_at q1 (0 : Int32)))), .unset] [(.int (1 : Int32)), (.ref b129)])) _
      refine XS.lloadN X133.here hx rfl (hb hby at_47) rfl ?_
      show Steps p.tables e below (T133.setTop (mkF m 48 #[.val (.int p1), .val (.long q1), .second, .val (.int (8 : Int32)), .val (.ref b129), .val (.int ((0 : Int32) + (own_at q1 (0 : Int32)))), .unset] [(.long q1), (.int (1 : Int32)), (.ref b129)])) _
      refine XS.iconst X133.here hx rfl (hb hby at_48) ?_
      show Steps p.tables e below (T133.setTop (mkF m 49 #[.val (.int p1), .val (.long q1), .second, .val (.int (8 : Int32)), .val (.ref b129), .val (.int ((0 : Int32) + (own_at q1 (0 : Int32)))), .unset] [(.int (1 : Int32)), (.long q1), (.int (1 : Int32)), (.ref b129)])) _
      refine st134 _ ?_
      show Steps p.tables e below (T134.setTop (mkF m 52 #[.val (.int p1), .val (.long q1), .second, .val (.int (8 : Int32)), .val (.ref b129), .val (.int ((0 : Int32) + (own_at q1 (0 : Int32)))), .unset] [(.int (own_at q1 (1 : Int32))), (.int (1 : Int32)), (.ref b129)])) _
      refine st136 _ ?_
      show Steps p.tables e below (T136.setTop (mkF m 53 #[.val (.int p1), .val (.long q1), .second, .val (.int (8 : Int32)), .val (.ref b129), .val (.int ((0 : Int32) + (own_at q1 (0 : Int32)))), .unset] [])) _
      refine XS.iload X136.here hx rfl (hb hby at_53) rfl ?_
      show Steps p.tables e below (T136.setTop (mkF m 55 #[.val (.int p1), .val (.long q1), .second, .val (.int (8 : Int32)), .val (.ref b129), .val (.int ((0 : Int32) + (own_at q1 (0 : Int32)))), .unset] [(.int ((0 : Int32) + (own_at q1 (0 : Int32))))])) _
      refine XS.lloadN X136.here hx rfl (hb hby at_55) rfl ?_
      show Steps p.tables e below (T136.setTop (mkF m 56 #[.val (.int p1), .val (.long q1), .second, .val (.int (8 : Int32)), .val (.ref b129), .val (.int ((0 : Int32) + (own_at q1 (0 : Int32)))), .unset] [(.long q1), (.int ((0 : Int32) + (own_at q1 (0 : Int32))))])) _
      refine XS.iconst X136.here hx rfl (hb hby at_56) ?_
      show Steps p.tables e below (T136.setTop (mkF m 57 #[.val (.int p1), .val (.long q1), .second, .val (.int (8 : Int32)), .val (.ref b129), .val (.int ((0 : Int32) + (own_at q1 (0 : Int32)))), .unset] [(.int (1 : Int32)), (.long q1), (.int ((0 : Int32) + (own_at q1 (0 : Int32))))])) _
      refine st137 _ ?_
      show Steps p.tables e below (T137.setTop (mkF m 60 #[.val (.int p1), .val (.long q1), .second, .val (.int (8 : Int32)), .val (.ref b129), .val (.int ((0 : Int32) + (own_at q1 (0 : Int32)))), .unset] [(.int (own_at q1 (1 : Int32))), (.int ((0 : Int32) + (own_at q1 (0 : Int32))))])) _
      refine XS.iadd X137.here hx rfl (hb hby at_60) rfl ?_
      show Steps p.tables e below (T137.setTop (mkF m 61 #[.val (.int p1), .val (.long q1), .second, .val (.int (8 : Int32)), .val (.ref b129), .val (.int ((0 : Int32) + (own_at q1 (0 : Int32)))), .unset] [(.int (((0 : Int32) + (own_at q1 (0 : Int32))) + (own_at q1 (1 : Int32))))])) _
      refine XS.istore X137.here hx rfl (hb hby at_61) rfl (l' := #[.val (.int p1), .val (.long q1), .second, .val (.int (8 : Int32)), .val (.ref b129), .val (.int (((0 : Int32) + (own_at q1 (0 : Int32))) + (own_at q1 (1 : Int32)))), .unset]) rfl ?_
      show Steps p.tables e below (T137.setTop (mkF m 63 #[.val (.int p1), .val (.long q1), .second, .val (.int (8 : Int32)), .val (.ref b129), .val (.int (((0 : Int32) + (own_at q1 (0 : Int32))) + (own_at q1 (1 : Int32)))), .unset] [])) _
      refine XS.iloadN X137.here hx rfl (hb hby at_63) rfl ?_
      show Steps p.tables e below (T137.setTop (mkF m 64 #[.val (.int p1), .val (.long q1), .second, .val (.int (8 : Int32)), .val (.ref b129), .val (.int (((0 : Int32) + (own_at q1 (0 : Int32))) + (own_at q1 (1 : Int32)))), .unset] [(.int (8 : Int32))])) _
      refine XS.iconst X137.here hx rfl (hb hby at_64) ?_
      show Steps p.tables e below (T137.setTop (mkF m 65 #[.val (.int p1), .val (.long q1), .second, .val (.int (8 : Int32)), .val (.ref b129), .val (.int (((0 : Int32) + (own_at q1 (0 : Int32))) + (own_at q1 (1 : Int32)))), .unset] [(.int (2 : Int32)), (.int (8 : Int32))])) _
      refine XS.icmpNo X137.here hx rfl (hb hby at_65) rfl (tlt (by decide : (2 : Int32) < (8 : Int32))).2.2.2 ?_
      show Steps p.tables e below (T137.setTop (mkF m 68 #[.val (.int p1), .val (.long q1), .second, .val (.int (8 : Int32)), .val (.ref b129), .val (.int (((0 : Int32) + (own_at q1 (0 : Int32))) + (own_at q1 (1 : Int32)))), .unset] [])) _
      refine XS.aload X137.here hx rfl (hb hby at_68) rfl rfl ?_
      show Steps p.tables e below (T137.setTop (mkF m 70 #[.val (.int p1), .val (.long q1), .second, .val (.int (8 : Int32)), .val (.ref b129), .val (.int (((0 : Int32) + (own_at q1 (0 : Int32))) + (own_at q1 (1 : Int32)))), .unset] [(.ref b129)])) _
      refine XS.iconst X137.here hx rfl (hb hby at_70) ?_
      show Steps p.tables e below (T137.setTop (mkF m 71 #[.val (.int p1), .val (.long q1), .second, .val (.int (8 : Int32)), .val (.ref b129), .val (.int (((0 : Int32) + (own_at q1 (0 : Int32))) + (own_at q1 (1 : Int32)))), .unset] [(.int (2 : Int32)), (.ref b129)])) _
      refine XS.lloadN X137.here hx rfl (hb hby at_71) rfl ?_
      show Steps p.tables e below (T137.setTop (mkF m 72 #[.val (.int p1), .val (.long q1), .second, .val (.int (8 : Int32)), .val (.ref b129), .val (.int (((0 : Int32) + (own_at q1 (0 : Int32))) + (own_at q1 (1 : Int32)))), .unset] [(.long q1), (.int (2 : Int32)), (.ref b129)])) _
      refine XS.iconst X137.here hx rfl (hb hby at_72) ?_
      show Steps p.tables e below (T137.setTop (mkF m 73 #[.val (.int p1), .val (.long q1), .second, .val (.int (8 : Int32)), .val (.ref b129), .val (.int (((0 : Int32) + (own_at q1 (0 : Int32))) + (own_at q1 (1 : Int32)))), .unset] [(.int (2 : Int32)), (.long q1), (.int (2 : Int32)), (.ref b129)])) _
      refine st138 _ ?_
      show Steps p.tables e below (T138.setTop (mkF m 76 #[.val (.int p1), .val (.long q1), .second, .val (.int (8 : Int32)), .val (.ref b129), .val (.int (((0 : Int32) + (own_at q1 (0 : Int32))) + (own_at q1 (1 : Int32)))), .unset] [(.int (own_at q1 (2 : Int32))), (.int (2 : Int32)), (.ref b129)])) _
      refine st140 _ ?_
      show Steps p.tables e below (T140.setTop (mkF m 77 #[.val (.int p1), .val (.long q1), .second, .val (.int (8 : Int32)), .val (.ref b129), .val (.int (((0 : Int32) + (own_at q1 (0 : Int32))) + (own_at q1 (1 : Int32)))), .unset] [])) _
      refine XS.iload X140.here hx rfl (hb hby at_77) rfl ?_
      show Steps p.tables e below (T140.setTop (mkF m 79 #[.val (.int p1), .val (.long q1), .second, .val (.int (8 : Int32)), .val (.ref b129), .val (.int (((0 : Int32) + (own_at q1 (0 : Int32))) + (own_at q1 (1 : Int32)))), .unset] [(.int (((0 : Int32) + (own_at q1 (0 : Int32))) + (own_at q1 (1 : Int32))))])) _
      refine XS.lloadN X140.here hx rfl (hb hby at_79) rfl ?_
      show Steps p.tables e below (T140.setTop (mkF m 80 #[.val (.int p1), .val (.long q1), .second, .val (.int (8 : Int32)), .val (.ref b129), .val (.int (((0 : Int32) + (own_at q1 (0 : Int32))) + (own_at q1 (1 : Int32)))), .unset] [(.long q1), (.int (((0 : Int32) + (own_at q1 (0 : Int32))) + (own_at q1 (1 : Int32))))])) _
      refine XS.iconst X140.here hx rfl (hb hby at_80) ?_
      show Steps p.tables e below (T140.setTop (mkF m 81 #[.val (.int p1), .val (.long q1), .second, .val (.int (8 : Int32)), .val (.ref b129), .val (.int (((0 : Int32) + (own_at q1 (0 : Int32))) + (own_at q1 (1 : Int32)))), .unset] [(.int (2 : Int32)), (.long q1), (.int (((0 : Int32) + (own_at q1 (0 : Int32))) + (own_at q1 (1 : Int32))))])) _
      refine st141 _ ?_
      show Steps p.tables e below (T141.setTop (mkF m 84 #[.val (.int p1), .val (.long q1), .second, .val (.int (8 : Int32)), .val (.ref b129), .val (.int (((0 : Int32) + (own_at q1 (0 : Int32))) + (own_at q1 (1 : Int32)))), .unset] [(.int (own_at q1 (2 : Int32))), (.int (((0 : Int32) + (own_at q1 (0 : Int32))) + (own_at q1 (1 : Int32))))])) _
      refine XS.iadd X141.here hx rfl (hb hby at_84) rfl ?_
      show Steps p.tables e below (T141.setTop (mkF m 85 #[.val (.int p1), .val (.long q1), .second, .val (.int (8 : Int32)), .val (.ref b129), .val (.int (((0 : Int32) + (own_at q1 (0 : Int32))) + (own_at q1 (1 : Int32)))), .unset] [(.int ((((0 : Int32) + (own_at q1 (0 : Int32))) + (own_at q1 (1 : Int32))) + (own_at q1 (2 : Int32))))])) _
      refine XS.istore X141.here hx rfl (hb hby at_85) rfl (l' := #[.val (.int p1), .val (.long q1), .second, .val (.int (8 : Int32)), .val (.ref b129), .val (.int ((((0 : Int32) + (own_at q1 (0 : Int32))) + (own_at q1 (1 : Int32))) + (own_at q1 (2 : Int32)))), .unset]) rfl ?_
      show Steps p.tables e below (T141.setTop (mkF m 87 #[.val (.int p1), .val (.long q1), .second, .val (.int (8 : Int32)), .val (.ref b129), .val (.int ((((0 : Int32) + (own_at q1 (0 : Int32))) + (own_at q1 (1 : Int32))) + (own_at q1 (2 : Int32)))), .unset] [])) _
      refine XS.iloadN X141.here hx rfl (hb hby at_87) rfl ?_
      show Steps p.tables e below (T141.setTop (mkF m 88 #[.val (.int p1), .val (.long q1), .second, .val (.int (8 : Int32)), .val (.ref b129), .val (.int ((((0 : Int32) + (own_at q1 (0 : Int32))) + (own_at q1 (1 : Int32))) + (own_at q1 (2 : Int32)))), .unset] [(.int (8 : Int32))])) _
      refine XS.iconst X141.here hx rfl (hb hby at_88) ?_
      show Steps p.tables e below (T141.setTop (mkF m 89 #[.val (.int p1), .val (.long q1), .second, .val (.int (8 : Int32)), .val (.ref b129), .val (.int ((((0 : Int32) + (own_at q1 (0 : Int32))) + (own_at q1 (1 : Int32))) + (own_at q1 (2 : Int32)))), .unset] [(.int (3 : Int32)), (.int (8 : Int32))])) _
      refine XS.icmpNo X141.here hx rfl (hb hby at_89) rfl (tlt (by decide : (3 : Int32) < (8 : Int32))).2.2.2 ?_
      show Steps p.tables e below (T141.setTop (mkF m 92 #[.val (.int p1), .val (.long q1), .second, .val (.int (8 : Int32)), .val (.ref b129), .val (.int ((((0 : Int32) + (own_at q1 (0 : Int32))) + (own_at q1 (1 : Int32))) + (own_at q1 (2 : Int32)))), .unset] [])) _
      refine XS.aload X141.here hx rfl (hb hby at_92) rfl rfl ?_
      show Steps p.tables e below (T141.setTop (mkF m 94 #[.val (.int p1), .val (.long q1), .second, .val (.int (8 : Int32)), .val (.ref b129), .val (.int ((((0 : Int32) + (own_at q1 (0 : Int32))) + (own_at q1 (1 : Int32))) + (own_at q1 (2 : Int32)))), .unset] [(.ref b129)])) _
      refine XS.iconst X141.here hx rfl (hb hby at_94) ?_
      show Steps p.tables e below (T141.setTop (mkF m 95 #[.val (.int p1), .val (.long q1), .second, .val (.int (8 : Int32)), .val (.ref b129), .val (.int ((((0 : Int32) + (own_at q1 (0 : Int32))) + (own_at q1 (1 : Int32))) + (own_at q1 (2 : Int32)))), .unset] [(.int (3 : Int32)), (.ref b129)])) _
      refine XS.lloadN X141.here hx rfl (hb hby at_95) rfl ?_
      show Steps p.tables e below (T141.setTop (mkF m 96 #[.val (.int p1), .val (.long q1), .second, .val (.int (8 : Int32)), .val (.ref b129), .val (.int ((((0 : Int32) + (own_at q1 (0 : Int32))) + (own_at q1 (1 : Int32))) + (own_at q1 (2 : Int32)))), .unset] [(.long q1), (.int (3 : Int32)), (.ref b129)])) _
      refine XS.iconst X141.here hx rfl (hb hby at_96) ?_
      show Steps p.tables e below (T141.setTop (mkF m 97 #[.val (.int p1), .val (.long q1), .second, .val (.int (8 : Int32)), .val (.ref b129), .val (.int ((((0 : Int32) + (own_at q1 (0 : Int32))) + (own_at q1 (1 : Int32))) + (own_at q1 (2 : Int32)))), .unset] [(.int (3 : Int32)), (.long q1), (.int (3 : Int32)), (.ref b129)])) _
      refine st142 _ ?_
      show Steps p.tables e below (T142.setTop (mkF m 100 #[.val (.int p1), .val (.long q1), .second, .val (.int (8 : Int32)), .val (.ref b129), .val (.int ((((0 : Int32) + (own_at q1 (0 : Int32))) + (own_at q1 (1 : Int32))) + (own_at q1 (2 : Int32)))), .unset] [(.int (own_at q1 (3 : Int32))), (.int (3 : Int32)), (.ref b129)])) _
      refine st144 _ ?_
      show Steps p.tables e below (T144.setTop (mkF m 101 #[.val (.int p1), .val (.long q1), .second, .val (.int (8 : Int32)), .val (.ref b129), .val (.int ((((0 : Int32) + (own_at q1 (0 : Int32))) + (own_at q1 (1 : Int32))) + (own_at q1 (2 : Int32)))), .unset] [])) _
      refine XS.iload X144.here hx rfl (hb hby at_101) rfl ?_
      show Steps p.tables e below (T144.setTop (mkF m 103 #[.val (.int p1), .val (.long q1), .second, .val (.int (8 : Int32)), .val (.ref b129), .val (.int ((((0 : Int32) + (own_at q1 (0 : Int32))) + (own_at q1 (1 : Int32))) + (own_at q1 (2 : Int32)))), .unset] [(.int ((((0 : Int32) + (own_at q1 (0 : Int32))) + (own_at q1 (1 : Int32))) + (own_at q1 (2 : Int32))))])) _
      refine XS.lloadN X144.here hx rfl (hb hby at_103) rfl ?_
      show Steps p.tables e below (T144.setTop (mkF m 104 #[.val (.int p1), .val (.long q1), .second, .val (.int (8 : Int32)), .val (.ref b129), .val (.int ((((0 : Int32) + (own_at q1 (0 : Int32))) + (own_at q1 (1 : Int32))) + (own_at q1 (2 : Int32)))), .unset] [(.long q1), (.int ((((0 : Int32) + (own_at q1 (0 : Int32))) + (own_at q1 (1 : Int32))) + (own_at q1 (2 : Int32))))])) _
      refine XS.iconst X144.here hx rfl (hb hby at_104) ?_
      show Steps p.tables e below (T144.setTop (mkF m 105 #[.val (.int p1), .val (.long q1), .second, .val (.int (8 : Int32)), .val (.ref b129), .val (.int ((((0 : Int32) + (own_at q1 (0 : Int32))) + (own_at q1 (1 : Int32))) + (own_at q1 (2 : Int32)))), .unset] [(.int (3 : Int32)), (.long q1), (.int ((((0 : Int32) + (own_at q1 (0 : Int32))) + (own_at q1 (1 : Int32))) + (own_at q1 (2 : Int32))))])) _
      refine st145 _ ?_
      show Steps p.tables e below (T145.setTop (mkF m 108 #[.val (.int p1), .val (.long q1), .second, .val (.int (8 : Int32)), .val (.ref b129), .val (.int ((((0 : Int32) + (own_at q1 (0 : Int32))) + (own_at q1 (1 : Int32))) + (own_at q1 (2 : Int32)))), .unset] [(.int (own_at q1 (3 : Int32))), (.int ((((0 : Int32) + (own_at q1 (0 : Int32))) + (own_at q1 (1 : Int32))) + (own_at q1 (2 : Int32))))])) _
      refine XS.iadd X145.here hx rfl (hb hby at_108) rfl ?_
      show Steps p.tables e below (T145.setTop (mkF m 109 #[.val (.int p1), .val (.long q1), .second, .val (.int (8 : Int32)), .val (.ref b129), .val (.int ((((0 : Int32) + (own_at q1 (0 : Int32))) + (own_at q1 (1 : Int32))) + (own_at q1 (2 : Int32)))), .unset] [(.int (((((0 : Int32) + (own_at q1 (0 : Int32))) + (own_at q1 (1 : Int32))) + (own_at q1 (2 : Int32))) + (own_at q1 (3 : Int32))))])) _
      refine XS.istore X145.here hx rfl (hb hby at_109) rfl (l' := #[.val (.int p1), .val (.long q1), .second, .val (.int (8 : Int32)), .val (.ref b129), .val (.int (((((0 : Int32) + (own_at q1 (0 : Int32))) + (own_at q1 (1 : Int32))) + (own_at q1 (2 : Int32))) + (own_at q1 (3 : Int32)))), .unset]) rfl ?_
      show Steps p.tables e below (T145.setTop (mkF m 111 #[.val (.int p1), .val (.long q1), .second, .val (.int (8 : Int32)), .val (.ref b129), .val (.int (((((0 : Int32) + (own_at q1 (0 : Int32))) + (own_at q1 (1 : Int32))) + (own_at q1 (2 : Int32))) + (own_at q1 (3 : Int32)))), .unset] [])) _
      refine XS.iloadN X145.here hx rfl (hb hby at_111) rfl ?_
      show Steps p.tables e below (T145.setTop (mkF m 112 #[.val (.int p1), .val (.long q1), .second, .val (.int (8 : Int32)), .val (.ref b129), .val (.int (((((0 : Int32) + (own_at q1 (0 : Int32))) + (own_at q1 (1 : Int32))) + (own_at q1 (2 : Int32))) + (own_at q1 (3 : Int32)))), .unset] [(.int (8 : Int32))])) _
      refine XS.iconst X145.here hx rfl (hb hby at_112) ?_
      show Steps p.tables e below (T145.setTop (mkF m 113 #[.val (.int p1), .val (.long q1), .second, .val (.int (8 : Int32)), .val (.ref b129), .val (.int (((((0 : Int32) + (own_at q1 (0 : Int32))) + (own_at q1 (1 : Int32))) + (own_at q1 (2 : Int32))) + (own_at q1 (3 : Int32)))), .unset] [(.int (4 : Int32)), (.int (8 : Int32))])) _
      refine XS.icmpNo X145.here hx rfl (hb hby at_113) rfl (tlt (by decide : (4 : Int32) < (8 : Int32))).2.2.2 ?_
      show Steps p.tables e below (T145.setTop (mkF m 116 #[.val (.int p1), .val (.long q1), .second, .val (.int (8 : Int32)), .val (.ref b129), .val (.int (((((0 : Int32) + (own_at q1 (0 : Int32))) + (own_at q1 (1 : Int32))) + (own_at q1 (2 : Int32))) + (own_at q1 (3 : Int32)))), .unset] [])) _
      refine XS.aload X145.here hx rfl (hb hby at_116) rfl rfl ?_
      show Steps p.tables e below (T145.setTop (mkF m 118 #[.val (.int p1), .val (.long q1), .second, .val (.int (8 : Int32)), .val (.ref b129), .val (.int (((((0 : Int32) + (own_at q1 (0 : Int32))) + (own_at q1 (1 : Int32))) + (own_at q1 (2 : Int32))) + (own_at q1 (3 : Int32)))), .unset] [(.ref b129)])) _
      refine XS.iconst X145.here hx rfl (hb hby at_118) ?_
      show Steps p.tables e below (T145.setTop (mkF m 119 #[.val (.int p1), .val (.long q1), .second, .val (.int (8 : Int32)), .val (.ref b129), .val (.int (((((0 : Int32) + (own_at q1 (0 : Int32))) + (own_at q1 (1 : Int32))) + (own_at q1 (2 : Int32))) + (own_at q1 (3 : Int32)))), .unset] [(.int (4 : Int32)), (.ref b129)])) _
      refine XS.lloadN X145.here hx rfl (hb hby at_119) rfl ?_
      show Steps p.tables e below (T145.setTop (mkF m 120 #[.val (.int p1), .val (.long q1), .second, .val (.int (8 : Int32)), .val (.ref b129), .val (.int (((((0 : Int32) + (own_at q1 (0 : Int32))) + (own_at q1 (1 : Int32))) + (own_at q1 (2 : Int32))) + (own_at q1 (3 : Int32)))), .unset] [(.long q1), (.int (4 : Int32)), (.ref b129)])) _
      refine XS.iconst X145.here hx rfl (hb hby at_120) ?_
      show Steps p.tables e below (T145.setTop (mkF m 121 #[.val (.int p1), .val (.long q1), .second, .val (.int (8 : Int32)), .val (.ref b129), .val (.int (((((0 : Int32) + (own_at q1 (0 : Int32))) + (own_at q1 (1 : Int32))) + (own_at q1 (2 : Int32))) + (own_at q1 (3 : Int32)))), .unset] [(.int (4 : Int32)), (.long q1), (.int (4 : Int32)), (.ref b129)])) _
      refine st146 _ ?_
      show Steps p.tables e below (T146.setTop (mkF m 124 #[.val (.int p1), .val (.long q1), .second, .val (.int (8 : Int32)), .val (.ref b129), .val (.int (((((0 : Int32) + (own_at q1 (0 : Int32))) + (own_at q1 (1 : Int32))) + (own_at q1 (2 : Int32))) + (own_at q1 (3 : Int32)))), .unset] [(.int (own_at q1 (4 : Int32))), (.int (4 : Int32)), (.ref b129)])) _
      refine st148 _ ?_
      show Steps p.tables e below (T148.setTop (mkF m 125 #[.val (.int p1), .val (.long q1), .second, .val (.int (8 : Int32)), .val (.ref b129), .val (.int (((((0 : Int32) + (own_at q1 (0 : Int32))) + (own_at q1 (1 : Int32))) + (own_at q1 (2 : Int32))) + (own_at q1 (3 : Int32)))), .unset] [])) _
      refine XS.iload X148.here hx rfl (hb hby at_125) rfl ?_
      show Steps p.tables e below (T148.setTop (mkF m 127 #[.val (.int p1), .val (.long q1), .second, .val (.int (8 : Int32)), .val (.ref b129), .val (.int (((((0 : Int32) + (own_at q1 (0 : Int32))) + (own_at q1 (1 : Int32))) + (own_at q1 (2 : Int32))) + (own_at q1 (3 : Int32)))), .unset] [(.int (((((0 : Int32) + (own_at q1 (0 : Int32))) + (own_at q1 (1 : Int32))) + (own_at q1 (2 : Int32))) + (own_at q1 (3 : Int32))))])) _
      refine XS.lloadN X148.here hx rfl (hb hby at_127) rfl ?_
      show Steps p.tables e below (T148.setTop (mkF m 128 #[.val (.int p1), .val (.long q1), .second, .val (.int (8 : Int32)), .val (.ref b129), .val (.int (((((0 : Int32) + (own_at q1 (0 : Int32))) + (own_at q1 (1 : Int32))) + (own_at q1 (2 : Int32))) + (own_at q1 (3 : Int32)))), .unset] [(.long q1), (.int (((((0 : Int32) + (own_at q1 (0 : Int32))) + (own_at q1 (1 : Int32))) + (own_at q1 (2 : Int32))) + (own_at q1 (3 : Int32))))])) _
      refine XS.iconst X148.here hx rfl (hb hby at_128) ?_
      show Steps p.tables e below (T148.setTop (mkF m 129 #[.val (.int p1), .val (.long q1), .second, .val (.int (8 : Int32)), .val (.ref b129), .val (.int (((((0 : Int32) + (own_at q1 (0 : Int32))) + (own_at q1 (1 : Int32))) + (own_at q1 (2 : Int32))) + (own_at q1 (3 : Int32)))), .unset] [(.int (4 : Int32)), (.long q1), (.int (((((0 : Int32) + (own_at q1 (0 : Int32))) + (own_at q1 (1 : Int32))) + (own_at q1 (2 : Int32))) + (own_at q1 (3 : Int32))))])) _
      refine st149 _ ?_
      show Steps p.tables e below (T149.setTop (mkF m 132 #[.val (.int p1), .val (.long q1), .second, .val (.int (8 : Int32)), .val (.ref b129), .val (.int (((((0 : Int32) + (own_at q1 (0 : Int32))) + (own_at q1 (1 : Int32))) + (own_at q1 (2 : Int32))) + (own_at q1 (3 : Int32)))), .unset] [(.int (own_at q1 (4 : Int32))), (.int (((((0 : Int32) + (own_at q1 (0 : Int32))) + (own_at q1 (1 : Int32))) + (own_at q1 (2 : Int32))) + (own_at q1 (3 : Int32))))])) _
      refine XS.iadd X149.here hx rfl (hb hby at_132) rfl ?_
      show Steps p.tables e below (T149.setTop (mkF m 133 #[.val (.int p1), .val (.long q1), .second, .val (.int (8 : Int32)), .val (.ref b129), .val (.int (((((0 : Int32) + (own_at q1 (0 : Int32))) + (own_at q1 (1 : Int32))) + (own_at q1 (2 : Int32))) + (own_at q1 (3 : Int32)))), .unset] [(.int ((((((0 : Int32) + (own_at q1 (0 : Int32))) + (own_at q1 (1 : Int32))) + (own_at q1 (2 : Int32))) + (own_at q1 (3 : Int32))) + (own_at q1 (4 : Int32))))])) _
      refine XS.istore X149.here hx rfl (hb hby at_133) rfl (l' := #[.val (.int p1), .val (.long q1), .second, .val (.int (8 : Int32)), .val (.ref b129), .val (.int ((((((0 : Int32) + (own_at q1 (0 : Int32))) + (own_at q1 (1 : Int32))) + (own_at q1 (2 : Int32))) + (own_at q1 (3 : Int32))) + (own_at q1 (4 : Int32)))), .unset]) rfl ?_
      show Steps p.tables e below (T149.setTop (mkF m 135 #[.val (.int p1), .val (.long q1), .second, .val (.int (8 : Int32)), .val (.ref b129), .val (.int ((((((0 : Int32) + (own_at q1 (0 : Int32))) + (own_at q1 (1 : Int32))) + (own_at q1 (2 : Int32))) + (own_at q1 (3 : Int32))) + (own_at q1 (4 : Int32)))), .unset] [])) _
      refine XS.iloadN X149.here hx rfl (hb hby at_135) rfl ?_
      show Steps p.tables e below (T149.setTop (mkF m 136 #[.val (.int p1), .val (.long q1), .second, .val (.int (8 : Int32)), .val (.ref b129), .val (.int ((((((0 : Int32) + (own_at q1 (0 : Int32))) + (own_at q1 (1 : Int32))) + (own_at q1 (2 : Int32))) + (own_at q1 (3 : Int32))) + (own_at q1 (4 : Int32)))), .unset] [(.int (8 : Int32))])) _
      refine XS.iconst X149.here hx rfl (hb hby at_136) ?_
      show Steps p.tables e below (T149.setTop (mkF m 137 #[.val (.int p1), .val (.long q1), .second, .val (.int (8 : Int32)), .val (.ref b129), .val (.int ((((((0 : Int32) + (own_at q1 (0 : Int32))) + (own_at q1 (1 : Int32))) + (own_at q1 (2 : Int32))) + (own_at q1 (3 : Int32))) + (own_at q1 (4 : Int32)))), .unset] [(.int (5 : Int32)), (.int (8 : Int32))])) _
      refine XS.icmpNo X149.here hx rfl (hb hby at_137) rfl (tlt (by decide : (5 : Int32) < (8 : Int32))).2.2.2 ?_
      show Steps p.tables e below (T149.setTop (mkF m 140 #[.val (.int p1), .val (.long q1), .second, .val (.int (8 : Int32)), .val (.ref b129), .val (.int ((((((0 : Int32) + (own_at q1 (0 : Int32))) + (own_at q1 (1 : Int32))) + (own_at q1 (2 : Int32))) + (own_at q1 (3 : Int32))) + (own_at q1 (4 : Int32)))), .unset] [])) _
      refine XS.aload X149.here hx rfl (hb hby at_140) rfl rfl ?_
      show Steps p.tables e below (T149.setTop (mkF m 142 #[.val (.int p1), .val (.long q1), .second, .val (.int (8 : Int32)), .val (.ref b129), .val (.int ((((((0 : Int32) + (own_at q1 (0 : Int32))) + (own_at q1 (1 : Int32))) + (own_at q1 (2 : Int32))) + (own_at q1 (3 : Int32))) + (own_at q1 (4 : Int32)))), .unset] [(.ref b129)])) _
      refine XS.iconst X149.here hx rfl (hb hby at_142) ?_
      show Steps p.tables e below (T149.setTop (mkF m 143 #[.val (.int p1), .val (.long q1), .second, .val (.int (8 : Int32)), .val (.ref b129), .val (.int ((((((0 : Int32) + (own_at q1 (0 : Int32))) + (own_at q1 (1 : Int32))) + (own_at q1 (2 : Int32))) + (own_at q1 (3 : Int32))) + (own_at q1 (4 : Int32)))), .unset] [(.int (5 : Int32)), (.ref b129)])) _
      refine XS.lloadN X149.here hx rfl (hb hby at_143) rfl ?_
      show Steps p.tables e below (T149.setTop (mkF m 144 #[.val (.int p1), .val (.long q1), .second, .val (.int (8 : Int32)), .val (.ref b129), .val (.int ((((((0 : Int32) + (own_at q1 (0 : Int32))) + (own_at q1 (1 : Int32))) + (own_at q1 (2 : Int32))) + (own_at q1 (3 : Int32))) + (own_at q1 (4 : Int32)))), .unset] [(.long q1), (.int (5 : Int32)), (.ref b129)])) _
      refine XS.iconst X149.here hx rfl (hb hby at_144) ?_
      show Steps p.tables e below (T149.setTop (mkF m 145 #[.val (.int p1), .val (.long q1), .second, .val (.int (8 : Int32)), .val (.ref b129), .val (.int ((((((0 : Int32) + (own_at q1 (0 : Int32))) + (own_at q1 (1 : Int32))) + (own_at q1 (2 : Int32))) + (own_at q1 (3 : Int32))) + (own_at q1 (4 : Int32)))), .unset] [(.int (5 : Int32)), (.long q1), (.int (5 : Int32)), (.ref b129)])) _
      refine st150 _ ?_
      show Steps p.tables e below (T150.setTop (mkF m 148 #[.val (.int p1), .val (.long q1), .second, .val (.int (8 : Int32)), .val (.ref b129), .val (.int ((((((0 : Int32) + (own_at q1 (0 : Int32))) + (own_at q1 (1 : Int32))) + (own_at q1 (2 : Int32))) + (own_at q1 (3 : Int32))) + (own_at q1 (4 : Int32)))), .unset] [(.int (own_at q1 (5 : Int32))), (.int (5 : Int32)), (.ref b129)])) _
      refine st152 _ ?_
      show Steps p.tables e below (T152.setTop (mkF m 149 #[.val (.int p1), .val (.long q1), .second, .val (.int (8 : Int32)), .val (.ref b129), .val (.int ((((((0 : Int32) + (own_at q1 (0 : Int32))) + (own_at q1 (1 : Int32))) + (own_at q1 (2 : Int32))) + (own_at q1 (3 : Int32))) + (own_at q1 (4 : Int32)))), .unset] [])) _
      refine XS.iload X152.here hx rfl (hb hby at_149) rfl ?_
      show Steps p.tables e below (T152.setTop (mkF m 151 #[.val (.int p1), .val (.long q1), .second, .val (.int (8 : Int32)), .val (.ref b129), .val (.int ((((((0 : Int32) + (own_at q1 (0 : Int32))) + (own_at q1 (1 : Int32))) + (own_at q1 (2 : Int32))) + (own_at q1 (3 : Int32))) + (own_at q1 (4 : Int32)))), .unset] [(.int ((((((0 : Int32) + (own_at q1 (0 : Int32))) + (own_at q1 (1 : Int32))) + (own_at q1 (2 : Int32))) + (own_at q1 (3 : Int32))) + (own_at q1 (4 : Int32))))])) _
      refine XS.lloadN X152.here hx rfl (hb hby at_151) rfl ?_
      show Steps p.tables e below (T152.setTop (mkF m 152 #[.val (.int p1), .val (.long q1), .second, .val (.int (8 : Int32)), .val (.ref b129), .val (.int ((((((0 : Int32) + (own_at q1 (0 : Int32))) + (own_at q1 (1 : Int32))) + (own_at q1 (2 : Int32))) + (own_at q1 (3 : Int32))) + (own_at q1 (4 : Int32)))), .unset] [(.long q1), (.int ((((((0 : Int32) + (own_at q1 (0 : Int32))) + (own_at q1 (1 : Int32))) + (own_at q1 (2 : Int32))) + (own_at q1 (3 : Int32))) + (own_at q1 (4 : Int32))))])) _
      refine XS.iconst X152.here hx rfl (hb hby at_152) ?_
      show Steps p.tables e below (T152.setTop (mkF m 153 #[.val (.int p1), .val (.long q1), .second, .val (.int (8 : Int32)), .val (.ref b129), .val (.int ((((((0 : Int32) + (own_at q1 (0 : Int32))) + (own_at q1 (1 : Int32))) + (own_at q1 (2 : Int32))) + (own_at q1 (3 : Int32))) + (own_at q1 (4 : Int32)))), .unset] [(.int (5 : Int32)), (.long q1), (.int ((((((0 : Int32) + (own_at q1 (0 : Int32))) + (own_at q1 (1 : Int32))) + (own_at q1 (2 : Int32))) + (own_at q1 (3 : Int32))) + (own_at q1 (4 : Int32))))])) _
      refine st153 _ ?_
      show Steps p.tables e below (T153.setTop (mkF m 156 #[.val (.int p1), .val (.long q1), .second, .val (.int (8 : Int32)), .val (.ref b129), .val (.int ((((((0 : Int32) + (own_at q1 (0 : Int32))) + (own_at q1 (1 : Int32))) + (own_at q1 (2 : Int32))) + (own_at q1 (3 : Int32))) + (own_at q1 (4 : Int32)))), .unset] [(.int (own_at q1 (5 : Int32))), (.int ((((((0 : Int32) + (own_at q1 (0 : Int32))) + (own_at q1 (1 : Int32))) + (own_at q1 (2 : Int32))) + (own_at q1 (3 : Int32))) + (own_at q1 (4 : Int32))))])) _
      refine XS.iadd X153.here hx rfl (hb hby at_156) rfl ?_
      show Steps p.tables e below (T153.setTop (mkF m 157 #[.val (.int p1), .val (.long q1), .second, .val (.int (8 : Int32)), .val (.ref b129), .val (.int ((((((0 : Int32) + (own_at q1 (0 : Int32))) + (own_at q1 (1 : Int32))) + (own_at q1 (2 : Int32))) + (own_at q1 (3 : Int32))) + (own_at q1 (4 : Int32)))), .unset] [(.int (((((((0 : Int32) + (own_at q1 (0 : Int32))) + (own_at q1 (1 : Int32))) + (own_at q1 (2 : Int32))) + (own_at q1 (3 : Int32))) + (own_at q1 (4 : Int32))) + (own_at q1 (5 : Int32))))])) _
      refine XS.istore X153.here hx rfl (hb hby at_157) rfl (l' := #[.val (.int p1), .val (.long q1), .second, .val (.int (8 : Int32)), .val (.ref b129), .val (.int (((((((0 : Int32) + (own_at q1 (0 : Int32))) + (own_at q1 (1 : Int32))) + (own_at q1 (2 : Int32))) + (own_at q1 (3 : Int32))) + (own_at q1 (4 : Int32))) + (own_at q1 (5 : Int32)))), .unset]) rfl ?_
      show Steps p.tables e below (T153.setTop (mkF m 159 #[.val (.int p1), .val (.long q1), .second, .val (.int (8 : Int32)), .val (.ref b129), .val (.int (((((((0 : Int32) + (own_at q1 (0 : Int32))) + (own_at q1 (1 : Int32))) + (own_at q1 (2 : Int32))) + (own_at q1 (3 : Int32))) + (own_at q1 (4 : Int32))) + (own_at q1 (5 : Int32)))), .unset] [])) _
      refine XS.iloadN X153.here hx rfl (hb hby at_159) rfl ?_
      show Steps p.tables e below (T153.setTop (mkF m 160 #[.val (.int p1), .val (.long q1), .second, .val (.int (8 : Int32)), .val (.ref b129), .val (.int (((((((0 : Int32) + (own_at q1 (0 : Int32))) + (own_at q1 (1 : Int32))) + (own_at q1 (2 : Int32))) + (own_at q1 (3 : Int32))) + (own_at q1 (4 : Int32))) + (own_at q1 (5 : Int32)))), .unset] [(.int (8 : Int32))])) _
      refine XS.bipush X153.here hx rfl (hb hby at_160) ?_
      show Steps p.tables e below (T153.setTop (mkF m 162 #[.val (.int p1), .val (.long q1), .second, .val (.int (8 : Int32)), .val (.ref b129), .val (.int (((((((0 : Int32) + (own_at q1 (0 : Int32))) + (own_at q1 (1 : Int32))) + (own_at q1 (2 : Int32))) + (own_at q1 (3 : Int32))) + (own_at q1 (4 : Int32))) + (own_at q1 (5 : Int32)))), .unset] [(.int (6 : Int32)), (.int (8 : Int32))])) _
      refine XS.icmpNo X153.here hx rfl (hb hby at_162) rfl (tlt (by decide : (6 : Int32) < (8 : Int32))).2.2.2 ?_
      show Steps p.tables e below (T153.setTop (mkF m 165 #[.val (.int p1), .val (.long q1), .second, .val (.int (8 : Int32)), .val (.ref b129), .val (.int (((((((0 : Int32) + (own_at q1 (0 : Int32))) + (own_at q1 (1 : Int32))) + (own_at q1 (2 : Int32))) + (own_at q1 (3 : Int32))) + (own_at q1 (4 : Int32))) + (own_at q1 (5 : Int32)))), .unset] [])) _
      refine XS.aload X153.here hx rfl (hb hby at_165) rfl rfl ?_
      show Steps p.tables e below (T153.setTop (mkF m 167 #[.val (.int p1), .val (.long q1), .second, .val (.int (8 : Int32)), .val (.ref b129), .val (.int (((((((0 : Int32) + (own_at q1 (0 : Int32))) + (own_at q1 (1 : Int32))) + (own_at q1 (2 : Int32))) + (own_at q1 (3 : Int32))) + (own_at q1 (4 : Int32))) + (own_at q1 (5 : Int32)))), .unset] [(.ref b129)])) _
      refine XS.bipush X153.here hx rfl (hb hby at_167) ?_
      show Steps p.tables e below (T153.setTop (mkF m 169 #[.val (.int p1), .val (.long q1), .second, .val (.int (8 : Int32)), .val (.ref b129), .val (.int (((((((0 : Int32) + (own_at q1 (0 : Int32))) + (own_at q1 (1 : Int32))) + (own_at q1 (2 : Int32))) + (own_at q1 (3 : Int32))) + (own_at q1 (4 : Int32))) + (own_at q1 (5 : Int32)))), .unset] [(.int (6 : Int32)), (.ref b129)])) _
      refine XS.lloadN X153.here hx rfl (hb hby at_169) rfl ?_
      show Steps p.tables e below (T153.setTop (mkF m 170 #[.val (.int p1), .val (.long q1), .second, .val (.int (8 : Int32)), .val (.ref b129), .val (.int (((((((0 : Int32) + (own_at q1 (0 : Int32))) + (own_at q1 (1 : Int32))) + (own_at q1 (2 : Int32))) + (own_at q1 (3 : Int32))) + (own_at q1 (4 : Int32))) + (own_at q1 (5 : Int32)))), .unset] [(.long q1), (.int (6 : Int32)), (.ref b129)])) _
      refine XS.bipush X153.here hx rfl (hb hby at_170) ?_
      show Steps p.tables e below (T153.setTop (mkF m 172 #[.val (.int p1), .val (.long q1), .second, .val (.int (8 : Int32)), .val (.ref b129), .val (.int (((((((0 : Int32) + (own_at q1 (0 : Int32))) + (own_at q1 (1 : Int32))) + (own_at q1 (2 : Int32))) + (own_at q1 (3 : Int32))) + (own_at q1 (4 : Int32))) + (own_at q1 (5 : Int32)))), .unset] [(.int (6 : Int32)), (.long q1), (.int (6 : Int32)), (.ref b129)])) _
      refine st154 _ ?_
      show Steps p.tables e below (T154.setTop (mkF m 175 #[.val (.int p1), .val (.long q1), .second, .val (.int (8 : Int32)), .val (.ref b129), .val (.int (((((((0 : Int32) + (own_at q1 (0 : Int32))) + (own_at q1 (1 : Int32))) + (own_at q1 (2 : Int32))) + (own_at q1 (3 : Int32))) + (own_at q1 (4 : Int32))) + (own_at q1 (5 : Int32)))), .unset] [(.int (own_at q1 (6 : Int32))), (.int (6 : Int32)), (.ref b129)])) _
      refine st156 _ ?_
      show Steps p.tables e below (T156.setTop (mkF m 176 #[.val (.int p1), .val (.long q1), .second, .val (.int (8 : Int32)), .val (.ref b129), .val (.int (((((((0 : Int32) + (own_at q1 (0 : Int32))) + (own_at q1 (1 : Int32))) + (own_at q1 (2 : Int32))) + (own_at q1 (3 : Int32))) + (own_at q1 (4 : Int32))) + (own_at q1 (5 : Int32)))), .unset] [])) _
      refine XS.iload X156.here hx rfl (hb hby at_176) rfl ?_
      show Steps p.tables e below (T156.setTop (mkF m 178 #[.val (.int p1), .val (.long q1), .second, .val (.int (8 : Int32)), .val (.ref b129), .val (.int (((((((0 : Int32) + (own_at q1 (0 : Int32))) + (own_at q1 (1 : Int32))) + (own_at q1 (2 : Int32))) + (own_at q1 (3 : Int32))) + (own_at q1 (4 : Int32))) + (own_at q1 (5 : Int32)))), .unset] [(.int (((((((0 : Int32) + (own_at q1 (0 : Int32))) + (own_at q1 (1 : Int32))) + (own_at q1 (2 : Int32))) + (own_at q1 (3 : Int32))) + (own_at q1 (4 : Int32))) + (own_at q1 (5 : Int32))))])) _
      refine XS.lloadN X156.here hx rfl (hb hby at_178) rfl ?_
      show Steps p.tables e below (T156.setTop (mkF m 179 #[.val (.int p1), .val (.long q1), .second, .val (.int (8 : Int32)), .val (.ref b129), .val (.int (((((((0 : Int32) + (own_at q1 (0 : Int32))) + (own_at q1 (1 : Int32))) + (own_at q1 (2 : Int32))) + (own_at q1 (3 : Int32))) + (own_at q1 (4 : Int32))) + (own_at q1 (5 : Int32)))), .unset] [(.long q1), (.int (((((((0 : Int32) + (own_at q1 (0 : Int32))) + (own_at q1 (1 : Int32))) + (own_at q1 (2 : Int32))) + (own_at q1 (3 : Int32))) + (own_at q1 (4 : Int32))) + (own_at q1 (5 : Int32))))])) _
      refine XS.bipush X156.here hx rfl (hb hby at_179) ?_
      show Steps p.tables e below (T156.setTop (mkF m 181 #[.val (.int p1), .val (.long q1), .second, .val (.int (8 : Int32)), .val (.ref b129), .val (.int (((((((0 : Int32) + (own_at q1 (0 : Int32))) + (own_at q1 (1 : Int32))) + (own_at q1 (2 : Int32))) + (own_at q1 (3 : Int32))) + (own_at q1 (4 : Int32))) + (own_at q1 (5 : Int32)))), .unset] [(.int (6 : Int32)), (.long q1), (.int (((((((0 : Int32) + (own_at q1 (0 : Int32))) + (own_at q1 (1 : Int32))) + (own_at q1 (2 : Int32))) + (own_at q1 (3 : Int32))) + (own_at q1 (4 : Int32))) + (own_at q1 (5 : Int32))))])) _
      refine st157 _ ?_
      show Steps p.tables e below (T157.setTop (mkF m 184 #[.val (.int p1), .val (.long q1), .second, .val (.int (8 : Int32)), .val (.ref b129), .val (.int (((((((0 : Int32) + (own_at q1 (0 : Int32))) + (own_at q1 (1 : Int32))) + (own_at q1 (2 : Int32))) + (own_at q1 (3 : Int32))) + (own_at q1 (4 : Int32))) + (own_at q1 (5 : Int32)))), .unset] [(.int (own_at q1 (6 : Int32))), (.int (((((((0 : Int32) + (own_at q1 (0 : Int32))) + (own_at q1 (1 : Int32))) + (own_at q1 (2 : Int32))) + (own_at q1 (3 : Int32))) + (own_at q1 (4 : Int32))) + (own_at q1 (5 : Int32))))])) _
      refine XS.iadd X157.here hx rfl (hb hby at_184) rfl ?_
      show Steps p.tables e below (T157.setTop (mkF m 185 #[.val (.int p1), .val (.long q1), .second, .val (.int (8 : Int32)), .val (.ref b129), .val (.int (((((((0 : Int32) + (own_at q1 (0 : Int32))) + (own_at q1 (1 : Int32))) + (own_at q1 (2 : Int32))) + (own_at q1 (3 : Int32))) + (own_at q1 (4 : Int32))) + (own_at q1 (5 : Int32)))), .unset] [(.int ((((((((0 : Int32) + (own_at q1 (0 : Int32))) + (own_at q1 (1 : Int32))) + (own_at q1 (2 : Int32))) + (own_at q1 (3 : Int32))) + (own_at q1 (4 : Int32))) + (own_at q1 (5 : Int32))) + (own_at q1 (6 : Int32))))])) _
      refine XS.istore X157.here hx rfl (hb hby at_185) rfl (l' := #[.val (.int p1), .val (.long q1), .second, .val (.int (8 : Int32)), .val (.ref b129), .val (.int ((((((((0 : Int32) + (own_at q1 (0 : Int32))) + (own_at q1 (1 : Int32))) + (own_at q1 (2 : Int32))) + (own_at q1 (3 : Int32))) + (own_at q1 (4 : Int32))) + (own_at q1 (5 : Int32))) + (own_at q1 (6 : Int32)))), .unset]) rfl ?_
      show Steps p.tables e below (T157.setTop (mkF m 187 #[.val (.int p1), .val (.long q1), .second, .val (.int (8 : Int32)), .val (.ref b129), .val (.int ((((((((0 : Int32) + (own_at q1 (0 : Int32))) + (own_at q1 (1 : Int32))) + (own_at q1 (2 : Int32))) + (own_at q1 (3 : Int32))) + (own_at q1 (4 : Int32))) + (own_at q1 (5 : Int32))) + (own_at q1 (6 : Int32)))), .unset] [])) _
      refine XS.iloadN X157.here hx rfl (hb hby at_187) rfl ?_
      show Steps p.tables e below (T157.setTop (mkF m 188 #[.val (.int p1), .val (.long q1), .second, .val (.int (8 : Int32)), .val (.ref b129), .val (.int ((((((((0 : Int32) + (own_at q1 (0 : Int32))) + (own_at q1 (1 : Int32))) + (own_at q1 (2 : Int32))) + (own_at q1 (3 : Int32))) + (own_at q1 (4 : Int32))) + (own_at q1 (5 : Int32))) + (own_at q1 (6 : Int32)))), .unset] [(.int (8 : Int32))])) _
      refine XS.bipush X157.here hx rfl (hb hby at_188) ?_
      show Steps p.tables e below (T157.setTop (mkF m 190 #[.val (.int p1), .val (.long q1), .second, .val (.int (8 : Int32)), .val (.ref b129), .val (.int ((((((((0 : Int32) + (own_at q1 (0 : Int32))) + (own_at q1 (1 : Int32))) + (own_at q1 (2 : Int32))) + (own_at q1 (3 : Int32))) + (own_at q1 (4 : Int32))) + (own_at q1 (5 : Int32))) + (own_at q1 (6 : Int32)))), .unset] [(.int (7 : Int32)), (.int (8 : Int32))])) _
      refine XS.icmpNo X157.here hx rfl (hb hby at_190) rfl (tlt (by decide : (7 : Int32) < (8 : Int32))).2.2.2 ?_
      show Steps p.tables e below (T157.setTop (mkF m 193 #[.val (.int p1), .val (.long q1), .second, .val (.int (8 : Int32)), .val (.ref b129), .val (.int ((((((((0 : Int32) + (own_at q1 (0 : Int32))) + (own_at q1 (1 : Int32))) + (own_at q1 (2 : Int32))) + (own_at q1 (3 : Int32))) + (own_at q1 (4 : Int32))) + (own_at q1 (5 : Int32))) + (own_at q1 (6 : Int32)))), .unset] [])) _
      refine XS.aload X157.here hx rfl (hb hby at_193) rfl rfl ?_
      show Steps p.tables e below (T157.setTop (mkF m 195 #[.val (.int p1), .val (.long q1), .second, .val (.int (8 : Int32)), .val (.ref b129), .val (.int ((((((((0 : Int32) + (own_at q1 (0 : Int32))) + (own_at q1 (1 : Int32))) + (own_at q1 (2 : Int32))) + (own_at q1 (3 : Int32))) + (own_at q1 (4 : Int32))) + (own_at q1 (5 : Int32))) + (own_at q1 (6 : Int32)))), .unset] [(.ref b129)])) _
      refine XS.bipush X157.here hx rfl (hb hby at_195) ?_
      show Steps p.tables e below (T157.setTop (mkF m 197 #[.val (.int p1), .val (.long q1), .second, .val (.int (8 : Int32)), .val (.ref b129), .val (.int ((((((((0 : Int32) + (own_at q1 (0 : Int32))) + (own_at q1 (1 : Int32))) + (own_at q1 (2 : Int32))) + (own_at q1 (3 : Int32))) + (own_at q1 (4 : Int32))) + (own_at q1 (5 : Int32))) + (own_at q1 (6 : Int32)))), .unset] [(.int (7 : Int32)), (.ref b129)])) _
      refine XS.lloadN X157.here hx rfl (hb hby at_197) rfl ?_
      show Steps p.tables e below (T157.setTop (mkF m 198 #[.val (.int p1), .val (.long q1), .second, .val (.int (8 : Int32)), .val (.ref b129), .val (.int ((((((((0 : Int32) + (own_at q1 (0 : Int32))) + (own_at q1 (1 : Int32))) + (own_at q1 (2 : Int32))) + (own_at q1 (3 : Int32))) + (own_at q1 (4 : Int32))) + (own_at q1 (5 : Int32))) + (own_at q1 (6 : Int32)))), .unset] [(.long q1), (.int (7 : Int32)), (.ref b129)])) _
      refine XS.bipush X157.here hx rfl (hb hby at_198) ?_
      show Steps p.tables e below (T157.setTop (mkF m 200 #[.val (.int p1), .val (.long q1), .second, .val (.int (8 : Int32)), .val (.ref b129), .val (.int ((((((((0 : Int32) + (own_at q1 (0 : Int32))) + (own_at q1 (1 : Int32))) + (own_at q1 (2 : Int32))) + (own_at q1 (3 : Int32))) + (own_at q1 (4 : Int32))) + (own_at q1 (5 : Int32))) + (own_at q1 (6 : Int32)))), .unset] [(.int (7 : Int32)), (.long q1), (.int (7 : Int32)), (.ref b129)])) _
      refine st158 _ ?_
      show Steps p.tables e below (T158.setTop (mkF m 203 #[.val (.int p1), .val (.long q1), .second, .val (.int (8 : Int32)), .val (.ref b129), .val (.int ((((((((0 : Int32) + (own_at q1 (0 : Int32))) + (own_at q1 (1 : Int32))) + (own_at q1 (2 : Int32))) + (own_at q1 (3 : Int32))) + (own_at q1 (4 : Int32))) + (own_at q1 (5 : Int32))) + (own_at q1 (6 : Int32)))), .unset] [(.int (own_at q1 (7 : Int32))), (.int (7 : Int32)), (.ref b129)])) _
      refine st160 _ ?_
      show Steps p.tables e below (T160.setTop (mkF m 204 #[.val (.int p1), .val (.long q1), .second, .val (.int (8 : Int32)), .val (.ref b129), .val (.int ((((((((0 : Int32) + (own_at q1 (0 : Int32))) + (own_at q1 (1 : Int32))) + (own_at q1 (2 : Int32))) + (own_at q1 (3 : Int32))) + (own_at q1 (4 : Int32))) + (own_at q1 (5 : Int32))) + (own_at q1 (6 : Int32)))), .unset] [])) _
      refine XS.iload X160.here hx rfl (hb hby at_204) rfl ?_
      show Steps p.tables e below (T160.setTop (mkF m 206 #[.val (.int p1), .val (.long q1), .second, .val (.int (8 : Int32)), .val (.ref b129), .val (.int ((((((((0 : Int32) + (own_at q1 (0 : Int32))) + (own_at q1 (1 : Int32))) + (own_at q1 (2 : Int32))) + (own_at q1 (3 : Int32))) + (own_at q1 (4 : Int32))) + (own_at q1 (5 : Int32))) + (own_at q1 (6 : Int32)))), .unset] [(.int ((((((((0 : Int32) + (own_at q1 (0 : Int32))) + (own_at q1 (1 : Int32))) + (own_at q1 (2 : Int32))) + (own_at q1 (3 : Int32))) + (own_at q1 (4 : Int32))) + (own_at q1 (5 : Int32))) + (own_at q1 (6 : Int32))))])) _
      refine XS.lloadN X160.here hx rfl (hb hby at_206) rfl ?_
      show Steps p.tables e below (T160.setTop (mkF m 207 #[.val (.int p1), .val (.long q1), .second, .val (.int (8 : Int32)), .val (.ref b129), .val (.int ((((((((0 : Int32) + (own_at q1 (0 : Int32))) + (own_at q1 (1 : Int32))) + (own_at q1 (2 : Int32))) + (own_at q1 (3 : Int32))) + (own_at q1 (4 : Int32))) + (own_at q1 (5 : Int32))) + (own_at q1 (6 : Int32)))), .unset] [(.long q1), (.int ((((((((0 : Int32) + (own_at q1 (0 : Int32))) + (own_at q1 (1 : Int32))) + (own_at q1 (2 : Int32))) + (own_at q1 (3 : Int32))) + (own_at q1 (4 : Int32))) + (own_at q1 (5 : Int32))) + (own_at q1 (6 : Int32))))])) _
      refine XS.bipush X160.here hx rfl (hb hby at_207) ?_
      show Steps p.tables e below (T160.setTop (mkF m 209 #[.val (.int p1), .val (.long q1), .second, .val (.int (8 : Int32)), .val (.ref b129), .val (.int ((((((((0 : Int32) + (own_at q1 (0 : Int32))) + (own_at q1 (1 : Int32))) + (own_at q1 (2 : Int32))) + (own_at q1 (3 : Int32))) + (own_at q1 (4 : Int32))) + (own_at q1 (5 : Int32))) + (own_at q1 (6 : Int32)))), .unset] [(.int (7 : Int32)), (.long q1), (.int ((((((((0 : Int32) + (own_at q1 (0 : Int32))) + (own_at q1 (1 : Int32))) + (own_at q1 (2 : Int32))) + (own_at q1 (3 : Int32))) + (own_at q1 (4 : Int32))) + (own_at q1 (5 : Int32))) + (own_at q1 (6 : Int32))))])) _
      refine st161 _ ?_
      show Steps p.tables e below (T161.setTop (mkF m 212 #[.val (.int p1), .val (.long q1), .second, .val (.int (8 : Int32)), .val (.ref b129), .val (.int ((((((((0 : Int32) + (own_at q1 (0 : Int32))) + (own_at q1 (1 : Int32))) + (own_at q1 (2 : Int32))) + (own_at q1 (3 : Int32))) + (own_at q1 (4 : Int32))) + (own_at q1 (5 : Int32))) + (own_at q1 (6 : Int32)))), .unset] [(.int (own_at q1 (7 : Int32))), (.int ((((((((0 : Int32) + (own_at q1 (0 : Int32))) + (own_at q1 (1 : Int32))) + (own_at q1 (2 : Int32))) + (own_at q1 (3 : Int32))) + (own_at q1 (4 : Int32))) + (own_at q1 (5 : Int32))) + (own_at q1 (6 : Int32))))])) _
      refine XS.iadd X161.here hx rfl (hb hby at_212) rfl ?_
      show Steps p.tables e below (T161.setTop (mkF m 213 #[.val (.int p1), .val (.long q1), .second, .val (.int (8 : Int32)), .val (.ref b129), .val (.int ((((((((0 : Int32) + (own_at q1 (0 : Int32))) + (own_at q1 (1 : Int32))) + (own_at q1 (2 : Int32))) + (own_at q1 (3 : Int32))) + (own_at q1 (4 : Int32))) + (own_at q1 (5 : Int32))) + (own_at q1 (6 : Int32)))), .unset] [(.int (((((((((0 : Int32) + (own_at q1 (0 : Int32))) + (own_at q1 (1 : Int32))) + (own_at q1 (2 : Int32))) + (own_at q1 (3 : Int32))) + (own_at q1 (4 : Int32))) + (own_at q1 (5 : Int32))) + (own_at q1 (6 : Int32))) + (own_at q1 (7 : Int32))))])) _
      refine XS.istore X161.here hx rfl (hb hby at_213) rfl (l' := #[.val (.int p1), .val (.long q1), .second, .val (.int (8 : Int32)), .val (.ref b129), .val (.int (((((((((0 : Int32) + (own_at q1 (0 : Int32))) + (own_at q1 (1 : Int32))) + (own_at q1 (2 : Int32))) + (own_at q1 (3 : Int32))) + (own_at q1 (4 : Int32))) + (own_at q1 (5 : Int32))) + (own_at q1 (6 : Int32))) + (own_at q1 (7 : Int32)))), .unset]) rfl ?_
      show Steps p.tables e below (T161.setTop (mkF m 215 #[.val (.int p1), .val (.long q1), .second, .val (.int (8 : Int32)), .val (.ref b129), .val (.int (((((((((0 : Int32) + (own_at q1 (0 : Int32))) + (own_at q1 (1 : Int32))) + (own_at q1 (2 : Int32))) + (own_at q1 (3 : Int32))) + (own_at q1 (4 : Int32))) + (own_at q1 (5 : Int32))) + (own_at q1 (6 : Int32))) + (own_at q1 (7 : Int32)))), .unset] [])) _
      refine XS.aload X161.here hx rfl (hb hby at_215) rfl rfl ?_
      show Steps p.tables e below (T161.setTop (mkF m 217 #[.val (.int p1), .val (.long q1), .second, .val (.int (8 : Int32)), .val (.ref b129), .val (.int (((((((((0 : Int32) + (own_at q1 (0 : Int32))) + (own_at q1 (1 : Int32))) + (own_at q1 (2 : Int32))) + (own_at q1 (3 : Int32))) + (own_at q1 (4 : Int32))) + (own_at q1 (5 : Int32))) + (own_at q1 (6 : Int32))) + (own_at q1 (7 : Int32)))), .unset] [(.ref b129)])) _
      refine st162 _ ?_
      show Steps p.tables e below (T162.setTop (mkF m 220 #[.val (.int p1), .val (.long q1), .second, .val (.int (8 : Int32)), .val (.ref b129), .val (.int (((((((((0 : Int32) + (own_at q1 (0 : Int32))) + (own_at q1 (1 : Int32))) + (own_at q1 (2 : Int32))) + (own_at q1 (3 : Int32))) + (own_at q1 (4 : Int32))) + (own_at q1 (5 : Int32))) + (own_at q1 (6 : Int32))) + (own_at q1 (7 : Int32)))), .unset] [(.int (own_cs [(own_at q1 (0 : Int32)), (own_at q1 (1 : Int32)), (own_at q1 (2 : Int32)), (own_at q1 (3 : Int32)), (own_at q1 (4 : Int32)), (own_at q1 (5 : Int32)), (own_at q1 (6 : Int32)), (own_at q1 (7 : Int32))]))])) _
      refine XS.istore X162.here hx rfl (hb hby at_220) rfl (l' := #[.val (.int p1), .val (.long q1), .second, .val (.int (8 : Int32)), .val (.ref b129), .val (.int (((((((((0 : Int32) + (own_at q1 (0 : Int32))) + (own_at q1 (1 : Int32))) + (own_at q1 (2 : Int32))) + (own_at q1 (3 : Int32))) + (own_at q1 (4 : Int32))) + (own_at q1 (5 : Int32))) + (own_at q1 (6 : Int32))) + (own_at q1 (7 : Int32)))), .val (.int (own_cs [(own_at q1 (0 : Int32)), (own_at q1 (1 : Int32)), (own_at q1 (2 : Int32)), (own_at q1 (3 : Int32)), (own_at q1 (4 : Int32)), (own_at q1 (5 : Int32)), (own_at q1 (6 : Int32)), (own_at q1 (7 : Int32))]))]) rfl ?_
      show Steps p.tables e below (T162.setTop (mkF m 222 #[.val (.int p1), .val (.long q1), .second, .val (.int (8 : Int32)), .val (.ref b129), .val (.int (((((((((0 : Int32) + (own_at q1 (0 : Int32))) + (own_at q1 (1 : Int32))) + (own_at q1 (2 : Int32))) + (own_at q1 (3 : Int32))) + (own_at q1 (4 : Int32))) + (own_at q1 (5 : Int32))) + (own_at q1 (6 : Int32))) + (own_at q1 (7 : Int32)))), .val (.int (own_cs [(own_at q1 (0 : Int32)), (own_at q1 (1 : Int32)), (own_at q1 (2 : Int32)), (own_at q1 (3 : Int32)), (own_at q1 (4 : Int32)), (own_at q1 (5 : Int32)), (own_at q1 (6 : Int32)), (own_at q1 (7 : Int32))]))] [])) _
      refine XS.iload X162.here hx rfl (hb hby at_222) rfl ?_
      show Steps p.tables e below (T162.setTop (mkF m 224 #[.val (.int p1), .val (.long q1), .second, .val (.int (8 : Int32)), .val (.ref b129), .val (.int (((((((((0 : Int32) + (own_at q1 (0 : Int32))) + (own_at q1 (1 : Int32))) + (own_at q1 (2 : Int32))) + (own_at q1 (3 : Int32))) + (own_at q1 (4 : Int32))) + (own_at q1 (5 : Int32))) + (own_at q1 (6 : Int32))) + (own_at q1 (7 : Int32)))), .val (.int (own_cs [(own_at q1 (0 : Int32)), (own_at q1 (1 : Int32)), (own_at q1 (2 : Int32)), (own_at q1 (3 : Int32)), (own_at q1 (4 : Int32)), (own_at q1 (5 : Int32)), (own_at q1 (6 : Int32)), (own_at q1 (7 : Int32))]))] [(.int (own_cs [(own_at q1 (0 : Int32)), (own_at q1 (1 : Int32)), (own_at q1 (2 : Int32)), (own_at q1 (3 : Int32)), (own_at q1 (4 : Int32)), (own_at q1 (5 : Int32)), (own_at q1 (6 : Int32)), (own_at q1 (7 : Int32))]))])) _
      refine XS.iload X162.here hx rfl (hb hby at_224) rfl ?_
      show Steps p.tables e below (T162.setTop (mkF m 226 #[.val (.int p1), .val (.long q1), .second, .val (.int (8 : Int32)), .val (.ref b129), .val (.int (((((((((0 : Int32) + (own_at q1 (0 : Int32))) + (own_at q1 (1 : Int32))) + (own_at q1 (2 : Int32))) + (own_at q1 (3 : Int32))) + (own_at q1 (4 : Int32))) + (own_at q1 (5 : Int32))) + (own_at q1 (6 : Int32))) + (own_at q1 (7 : Int32)))), .val (.int (own_cs [(own_at q1 (0 : Int32)), (own_at q1 (1 : Int32)), (own_at q1 (2 : Int32)), (own_at q1 (3 : Int32)), (own_at q1 (4 : Int32)), (own_at q1 (5 : Int32)), (own_at q1 (6 : Int32)), (own_at q1 (7 : Int32))]))] [(.int (((((((((0 : Int32) + (own_at q1 (0 : Int32))) + (own_at q1 (1 : Int32))) + (own_at q1 (2 : Int32))) + (own_at q1 (3 : Int32))) + (own_at q1 (4 : Int32))) + (own_at q1 (5 : Int32))) + (own_at q1 (6 : Int32))) + (own_at q1 (7 : Int32)))), (.int (own_cs [(own_at q1 (0 : Int32)), (own_at q1 (1 : Int32)), (own_at q1 (2 : Int32)), (own_at q1 (3 : Int32)), (own_at q1 (4 : Int32)), (own_at q1 (5 : Int32)), (own_at q1 (6 : Int32)), (own_at q1 (7 : Int32))]))])) _
      refine XS.sipush X162.here hx rfl (hb hby at_226) ?_
      show Steps p.tables e below (T162.setTop (mkF m 229 #[.val (.int p1), .val (.long q1), .second, .val (.int (8 : Int32)), .val (.ref b129), .val (.int (((((((((0 : Int32) + (own_at q1 (0 : Int32))) + (own_at q1 (1 : Int32))) + (own_at q1 (2 : Int32))) + (own_at q1 (3 : Int32))) + (own_at q1 (4 : Int32))) + (own_at q1 (5 : Int32))) + (own_at q1 (6 : Int32))) + (own_at q1 (7 : Int32)))), .val (.int (own_cs [(own_at q1 (0 : Int32)), (own_at q1 (1 : Int32)), (own_at q1 (2 : Int32)), (own_at q1 (3 : Int32)), (own_at q1 (4 : Int32)), (own_at q1 (5 : Int32)), (own_at q1 (6 : Int32)), (own_at q1 (7 : Int32))]))] [(.int (255 : Int32)), (.int (((((((((0 : Int32) + (own_at q1 (0 : Int32))) + (own_at q1 (1 : Int32))) + (own_at q1 (2 : Int32))) + (own_at q1 (3 : Int32))) + (own_at q1 (4 : Int32))) + (own_at q1 (5 : Int32))) + (own_at q1 (6 : Int32))) + (own_at q1 (7 : Int32)))), (.int (own_cs [(own_at q1 (0 : Int32)), (own_at q1 (1 : Int32)), (own_at q1 (2 : Int32)), (own_at q1 (3 : Int32)), (own_at q1 (4 : Int32)), (own_at q1 (5 : Int32)), (own_at q1 (6 : Int32)), (own_at q1 (7 : Int32))]))])) _
      refine XS.iand X162.here hx rfl (hb hby at_229) rfl ?_
      show Steps p.tables e below (T162.setTop (mkF m 230 #[.val (.int p1), .val (.long q1), .second, .val (.int (8 : Int32)), .val (.ref b129), .val (.int (((((((((0 : Int32) + (own_at q1 (0 : Int32))) + (own_at q1 (1 : Int32))) + (own_at q1 (2 : Int32))) + (own_at q1 (3 : Int32))) + (own_at q1 (4 : Int32))) + (own_at q1 (5 : Int32))) + (own_at q1 (6 : Int32))) + (own_at q1 (7 : Int32)))), .val (.int (own_cs [(own_at q1 (0 : Int32)), (own_at q1 (1 : Int32)), (own_at q1 (2 : Int32)), (own_at q1 (3 : Int32)), (own_at q1 (4 : Int32)), (own_at q1 (5 : Int32)), (own_at q1 (6 : Int32)), (own_at q1 (7 : Int32))]))] [(.int ((((((((((0 : Int32) + (own_at q1 (0 : Int32))) + (own_at q1 (1 : Int32))) + (own_at q1 (2 : Int32))) + (own_at q1 (3 : Int32))) + (own_at q1 (4 : Int32))) + (own_at q1 (5 : Int32))) + (own_at q1 (6 : Int32))) + (own_at q1 (7 : Int32))) &&& (255 : Int32))), (.int (own_cs [(own_at q1 (0 : Int32)), (own_at q1 (1 : Int32)), (own_at q1 (2 : Int32)), (own_at q1 (3 : Int32)), (own_at q1 (4 : Int32)), (own_at q1 (5 : Int32)), (own_at q1 (6 : Int32)), (own_at q1 (7 : Int32))]))])) _
      refine XS.icmpNo X162.here hx rfl (hb hby at_230) rfl (teq (own_key [(own_at q1 (0 : Int32)), (own_at q1 (1 : Int32)), (own_at q1 (2 : Int32)), (own_at q1 (3 : Int32)), (own_at q1 (4 : Int32)), (own_at q1 (5 : Int32)), (own_at q1 (6 : Int32)), (own_at q1 (7 : Int32))] : (own_cs [(own_at q1 (0 : Int32)), (own_at q1 (1 : Int32)), (own_at q1 (2 : Int32)), (own_at q1 (3 : Int32)), (own_at q1 (4 : Int32)), (own_at q1 (5 : Int32)), (own_at q1 (6 : Int32)), (own_at q1 (7 : Int32))]) = ((((((((((0 : Int32) + (own_at q1 (0 : Int32))) + (own_at q1 (1 : Int32))) + (own_at q1 (2 : Int32))) + (own_at q1 (3 : Int32))) + (own_at q1 (4 : Int32))) + (own_at q1 (5 : Int32))) + (own_at q1 (6 : Int32))) + (own_at q1 (7 : Int32))) &&& (255 : Int32)))).2 ?_
      show Steps p.tables e below (T162.setTop (mkF m 233 #[.val (.int p1), .val (.long q1), .second, .val (.int (8 : Int32)), .val (.ref b129), .val (.int (((((((((0 : Int32) + (own_at q1 (0 : Int32))) + (own_at q1 (1 : Int32))) + (own_at q1 (2 : Int32))) + (own_at q1 (3 : Int32))) + (own_at q1 (4 : Int32))) + (own_at q1 (5 : Int32))) + (own_at q1 (6 : Int32))) + (own_at q1 (7 : Int32)))), .val (.int (own_cs [(own_at q1 (0 : Int32)), (own_at q1 (1 : Int32)), (own_at q1 (2 : Int32)), (own_at q1 (3 : Int32)), (own_at q1 (4 : Int32)), (own_at q1 (5 : Int32)), (own_at q1 (6 : Int32)), (own_at q1 (7 : Int32))]))] [])) _
      refine XS.iconst X162.here hx rfl (hb hby at_233) ?_
      show Steps p.tables e below (T162.setTop (mkF m 234 #[.val (.int p1), .val (.long q1), .second, .val (.int (8 : Int32)), .val (.ref b129), .val (.int (((((((((0 : Int32) + (own_at q1 (0 : Int32))) + (own_at q1 (1 : Int32))) + (own_at q1 (2 : Int32))) + (own_at q1 (3 : Int32))) + (own_at q1 (4 : Int32))) + (own_at q1 (5 : Int32))) + (own_at q1 (6 : Int32))) + (own_at q1 (7 : Int32)))), .val (.int (own_cs [(own_at q1 (0 : Int32)), (own_at q1 (1 : Int32)), (own_at q1 (2 : Int32)), (own_at q1 (3 : Int32)), (own_at q1 (4 : Int32)), (own_at q1 (5 : Int32)), (own_at q1 (6 : Int32)), (own_at q1 (7 : Int32))]))] [(.int (1 : Int32))])) _
      refine XS.goto X162.here hx rfl (pc0 := 234) (pc' := 238) rfl (hb hby at_234) (by decide) (by decide) ?_
      show Steps p.tables e below (T162.setTop (mkF m 238 #[.val (.int p1), .val (.long q1), .second, .val (.int (8 : Int32)), .val (.ref b129), .val (.int (((((((((0 : Int32) + (own_at q1 (0 : Int32))) + (own_at q1 (1 : Int32))) + (own_at q1 (2 : Int32))) + (own_at q1 (3 : Int32))) + (own_at q1 (4 : Int32))) + (own_at q1 (5 : Int32))) + (own_at q1 (6 : Int32))) + (own_at q1 (7 : Int32)))), .val (.int (own_cs [(own_at q1 (0 : Int32)), (own_at q1 (1 : Int32)), (own_at q1 (2 : Int32)), (own_at q1 (3 : Int32)), (own_at q1 (4 : Int32)), (own_at q1 (5 : Int32)), (own_at q1 (6 : Int32)), (own_at q1 (7 : Int32))]))] [(.int (1 : Int32))])) _
      exact retN X162 hx (t := .boolean) Bd.returns (by simp) (hb hby at_238) hr
    · show Qown_law Z p1 q1 h0 n0 _ T162.heap _
      rw [e162]
      exact ⟨rfl, N162⟩
set_option maxRecDepth 65536 in
set_option maxHeartbeats 40000000 in
theorem comes_1 {Post : Tables → Env → Array Value → State → Outcome → State → Prop} (hpost : ∀ tb e args s v u, (limb_1_1.after args s (.returned v) u = true ∧ limb_1_2.after args s (.returned v) u = true ∧ True) → FrameEnd s (.returned v) u (Jvm.fieldLocs frame_1_writes args s ++ Jvm.arrayLocs frame_1_arrays args s ++ Jvm.staticLocs frame_1_statics s) 16 128 → Post tb e args s (.returned v) u) :
    ArmFor flags0 classFile x code maxLocals ret World_1 tables_1 room_1 Calls_1 rest_1 Pre_1 Post := by
  intro l hfl _ _ p e ha hc hk s m args below hf hA hF happ hP
  obtain ⟨hcalls, hrest, hpre⟩ := hP
  obtain ⟨-, -, -, hnamed, -, -, -, hat⟩ := (Spec.applies_iff hf).mp happ
  obtain ⟨hg, hn⟩ := and_e (Cond.before_iff.mp (show (Jvm.Cond.and given_1 narrow_1).before args s = true from hpre))
  obtain ⟨g1, g2⟩ := and_e hg
  obtain ⟨g3, g4⟩ := and_e g2
  obtain ⟨w0, w1, rfl⟩ : ∃ w0 w1 : Value, args = #[w0, w1] := by
    have hs : args.size = 2 := by simpa [Cond.value, given_1] using g1
    obtain ⟨L⟩ := args
    match L, hs with
    | [w0, w1], _ => exact ⟨w0, w1, rfl⟩
  have hw := fun d (hd : d ∈ tables_1) => atoms_spec (ws := Jvm.Cond.code x code maxLocals ret :: tables_1) hat d (List.mem_cons_of_mem _ hd)
  have hfit : Fit s := fun {y c} hc i hi => by
    obtain ⟨ha, rfl⟩ := Array.getElem?_eq_some_iff.mp hc
    have q := List.all_eq_true.mp ((Array.all_eq_true_iff_forall_mem.mp hF) _ (Array.getElem_mem ha)) i (List.mem_range.mpr hi)
    simpa [Array.getElem?_eq_getElem hi] using q
  obtain ⟨i0, ei0⟩ := is_v g3
  obtain rfl : w0 = (.int i0) := Option.some.inj ei0
  obtain ⟨i1, ei1⟩ := isL_v g4
  obtain rfl : w1 = (.long i1) := Option.some.inj ei1
  obtain ⟨n, o, h1, h2, h3, _, L, rfl, ⟨rfl, N⟩, hq⟩ := own_law l s _ hw tables_1 i0 i1 s.heap s.heap.size (Nat.le_refl _)  p e ha hc hk s m _ below hf ((Spec.applies_iff_loose hf).mp happ).1 ⟨rfl, State.Warmed39.refl s, rfl⟩ trivial
  refine ⟨n, _, h1, h2, h3, hpost _ _ _ _ _ _ ⟨Cond.after_iff.mpr rfl, Cond.after_iff.mpr (eq_i res_at (Term.int_eval (1)) rfl), trivial⟩ ⟨hq.1, hq.2.1, (hq.2.2.sift fun y hy => Or.inr (N y hy)).mono (by decide) (by decide)⟩⟩
theorem main_1_1 : Claimed_1_1 := comes_1 fun _ _ _ _ _ _ h hF => ⟨h.1, hF⟩
theorem main_1_2 : Claimed_1_2 := comes_1 fun _ _ _ _ _ _ h hF => ⟨h.2.1, hF⟩
end Jvm.Pilot.@@N@@
namespace Jvm.Pilot.@@N@@
open Jvm Jvm.ClassFile Sem Op Lib Jvm.Free Jvm.Stand Jvm.Pilot.@@N@@.Jvm.D
/-! MADE BY PROGRAM (witnessworld.py) out of the Statement's table words and the real class files: 10 classes; the members and pool entries that the words name. The judged class is class 1, her method 2. -/
namespace start1
open Jvm.ClassFile
def u (s : String) : CpInfo := .utf8 (stringToUtf16 s)
/-- a pool by its gaps: so many unusable entries, then the entry; so many at the end -/
def gap : Nat → List CpInfo → List CpInfo
  | 0, r => r
  | n + 1, r => .unusable :: gap n r
def poolList (es : List (Nat × CpInfo)) (last : Nat) : List CpInfo := es.foldr (fun e r => gap e.1 (e.2 :: r)) (gap last [])
def pool (es : List (Nat × CpInfo)) (last : Nat) : Array CpInfo := ⟨poolList es last⟩
def fileOf (pool : Array CpInfo) (this : Nat) (attrs : Array Attribute := #[]) (ms : Array MethodInfo := #[]) (fl : Nat := 33) (sup : Nat := 0) (ifs : Array Nat := #[]) (fds : Array FieldInfo := #[]) : ClassFile where
  minorVersion := 0
  majorVersion := 65
  constantPool := pool
  accessFlags := fl
  thisClass := this
  superClass := sup
  interfaces := ifs
  fields := fds
  methods := ms
  attributes := attrs
def plain (name : String) (sup : Option ClassId) : Class where
  name := name
  kind := .ordinary
  loader := none
  accessFlags := 33
  super := sup
  interfaces := #[]
  cf := none
  fields := #[]
  methods := #[]
  instanceTypes := #[]
  staticTypes := #[]
  resolved := #[]
  callSites := []
  init := .initialized
  statics := none
  mirror := none

def pool0 : Array CpInfo := pool [(5, u "<init>"), (0, u "()V"), (1, .class_ 10), (1, u "java/lang/Object")] 113

def k0m0 : Method := { name := "<init>", desc := "()V", sig := { parameters := [], returnType := none }, accessFlags := 1, code := none }
/-- java/lang/Object -/
def k0 : Class := { plain "java/lang/Object" none with
  accessFlags := 33
  interfaces := #[]
  cf := some (fileOf pool0 8 #[] #[{ accessFlags := 1, nameIndex := 5, descriptorIndex := 6, attributes := #[] }] 33 0 #[] #[])
  fields := #[]
  methods := #[k0m0]
  instanceTypes := #[]
  staticTypes := #[]
  resolved := Array.replicate 124 none
  statics := none }

def pool1 : Array CpInfo := pool [(2, .class_ 4), (1, u "java/lang/Object"), (0, u "<init>"), (0, u "()V"), (0, .integer 2147483647), (0, .methodref 9 10), (0, .class_ 11), (0, .nameAndType 12 13), (0, u "com/example/assaybus/assaybus/link/FrameChecksumPinLaw"), (0, u "at"), (0, u "(JI)B"), (0, .methodref 15 16), (0, .class_ 17), (0, .nameAndType 18 19), (0, u "com/example/assaybus/assaybus/link/Frame"), (0, u "checksum"), (0, u "([B)I"), (2, u "law"), (0, u "(IJ)Z")] 5

def k1m0 : Method := { name := "<init>", desc := "()V", sig := { parameters := [], returnType := none }, accessFlags := 1, code := none }
def k1c1 : Code := { maxStack := 4, maxLocals := 3, code := method_2_code, exceptionTable := #[], attributes := #[] }
def k1m1 : Method := { name := "at", desc := "(JI)B", sig := { parameters := [.long, .int], returnType := some .byte }, accessFlags := 10, code := some k1c1 }
def k1c2 : Code := { maxStack := 5, maxLocals := 7, code := code, exceptionTable := #[], attributes := #[] }
def k1m2 : Method := { name := "law", desc := "(IJ)Z", sig := { parameters := [.int, .long], returnType := some .boolean }, accessFlags := 9, code := some k1c2 }
/-- com/example/assaybus/assaybus/link/FrameChecksumPinLaw -/
def k1 : Class := { plain "com/example/assaybus/assaybus/link/FrameChecksumPinLaw" (some 0) with
  accessFlags := 49
  interfaces := #[]
  cf := some (fileOf pool1 9 #[] #[{ accessFlags := 1, nameIndex := 5, descriptorIndex := 6, attributes := #[] }, { accessFlags := 10, nameIndex := 12, descriptorIndex := 13, attributes := #[] }, { accessFlags := 9, nameIndex := 22, descriptorIndex := 23, attributes := #[] }] 49 2 #[] #[])
  fields := #[]
  methods := #[k1m0, k1m1, k1m2]
  instanceTypes := #[]
  staticTypes := #[]
  resolved := Array.replicate 29 none
  statics := none }

def pool2 : Array CpInfo := pool [(2, .class_ 4), (1, u "java/lang/Object"), (0, u "<init>"), (0, u "()V"), (0, .class_ 8), (0, u "java/lang/Record")] 13

def k2m0 : Method := { name := "<init>", desc := "()V", sig := { parameters := [], returnType := none }, accessFlags := 4, code := none }
/-- java/lang/Record -/
def k2 : Class := { plain "java/lang/Record" (some 0) with
  accessFlags := 1057
  interfaces := #[]
  cf := some (fileOf pool2 7 #[] #[{ accessFlags := 4, nameIndex := 5, descriptorIndex := 6, attributes := #[] }] 1057 2 #[] #[])
  fields := #[]
  methods := #[k2m0]
  instanceTypes := #[]
  staticTypes := #[]
  resolved := Array.replicate 22 none
  statics := none }

def pool3 : Array CpInfo := pool [(4, .class_ 6), (1, u "java/lang/Record"), (3, .class_ 12), (1, u "com/example/assaybus/assaybus/link/Frame"), (0, u "position"), (0, u "J"), (2, u "number"), (0, u "I"), (2, u "text"), (0, u "[B"), (2, u "last"), (0, u "Z"), (24, u "checksum"), (0, u "([B)I")] 73

def k3c0 : Code := { maxStack := 3, maxLocals := 6, code := prog_28_method_2_code, exceptionTable := #[], attributes := #[] }
def k3m0 : Method := { name := "checksum", desc := "([B)I", sig := { parameters := [(.array .byte)], returnType := some .int }, accessFlags := 8, code := some k3c0 }
/-- com/example/assaybus/assaybus/link/Frame -/
def k3 : Class := { plain "com/example/assaybus/assaybus/link/Frame" (some 2) with
  accessFlags := 49
  interfaces := #[]
  cf := some (fileOf pool3 10 #[] #[{ accessFlags := 8, nameIndex := 51, descriptorIndex := 52, attributes := #[] }] 49 4 #[] #[{ accessFlags := 18, nameIndex := 13, descriptorIndex := 14, attributes := #[] }, { accessFlags := 18, nameIndex := 17, descriptorIndex := 18, attributes := #[] }, { accessFlags := 18, nameIndex := 21, descriptorIndex := 22, attributes := #[] }, { accessFlags := 18, nameIndex := 25, descriptorIndex := 26, attributes := #[] }])
  fields := #[{ name := "position", type := .long, accessFlags := 18, slot := 0, constantValue := 0 }, { name := "number", type := .int, accessFlags := 18, slot := 1, constantValue := 0 }, { name := "text", type := (.array .byte), accessFlags := 18, slot := 2, constantValue := 0 }, { name := "last", type := .boolean, accessFlags := 18, slot := 3, constantValue := 0 }]
  methods := #[k3m0]
  instanceTypes := #[.long, .int, (.array .byte), .boolean]
  staticTypes := #[]
  resolved := Array.replicate 126 none
  statics := none }

def pool4 : Array CpInfo := pool [(1, u "java/lang/Cloneable"), (0, .class_ 1), (0, u "java/lang/Object"), (0, .class_ 3)] 3

/-- java/lang/Cloneable -/
def k4 : Class := { plain "java/lang/Cloneable" (some 0) with
  accessFlags := 1537
  interfaces := #[]
  cf := some (fileOf pool4 2 #[] #[] 1537 4 #[] #[])
  fields := #[]
  methods := #[]
  instanceTypes := #[]
  staticTypes := #[]
  resolved := Array.replicate 8 none
  statics := none }

def pool5 : Array CpInfo := pool [(1, u "java/io/Serializable"), (0, .class_ 1), (0, u "java/lang/Object"), (0, .class_ 3)] 3

/-- java/io/Serializable -/
def k5 : Class := { plain "java/io/Serializable" (some 0) with
  accessFlags := 1537
  interfaces := #[]
  cf := some (fileOf pool5 2 #[] #[] 1537 4 #[] #[])
  fields := #[]
  methods := #[]
  instanceTypes := #[]
  staticTypes := #[]
  resolved := Array.replicate 8 none
  statics := none }

/-- the primitive byte -/
def k6 : Class := { plain "byte" none with kind := .primitive 'B', accessFlags := 0x411 }
/-- [B -/
def k7 : Class := { plain "[B" (some 0) with kind := .array 6 .byte, interfaces := #[4, 5], accessFlags := 1041 }

/-- the primitive int -/
def k8 : Class := { plain "int" none with kind := .primitive 'I', accessFlags := 0x411 }
/-- [I -/
def k9 : Class := { plain "[I" (some 0) with kind := .array 8 .int, interfaces := #[4, 5], accessFlags := 1041 }

def heap : Heap := #[]
def classes : Array Class := #[k0, k1, k2, k3, k4, k5, k6, k7, k8, k9]
def interned : List (Array UInt16 × Addr) := []
def slotsUsed : Nat := 0
def theMethod : MethodId := ⟨1, 2⟩
def args0 : Array Value := #[.int 5, .long 77]
def aboutOver (below : List Frame) : State where
  vm := { classes := classes, interned := interned.toArray }
  heap := heap
  slotsUsed := slotsUsed
  threads := #[{ frames := .invoking theMethod args0 :: below }]
def below0 : List Frame := [.native { method := ⟨0, 0⟩, args := #[] }]
def about1 : State := aboutOver below0
def p0 : Program := .bare "" "" ""
def e0 : Env := launch0.env 0 0 0
theorem w_frames : about1.frames = Frame.invoking theMethod args0 :: below0 := rfl
set_option maxRecDepth 65536 in
theorem w_args : argsFit about1.vm theMethod args0 = true := by decide +kernel
set_option maxRecDepth 65536 in
theorem w_heap : heapFits about1 = true := by decide +kernel
set_option maxRecDepth 65536 in
theorem w_runnable : about1.curStatus? = some .runnable := by decide +kernel
set_option maxRecDepth 65536 in
theorem w_alone : about1.alone = true := by decide +kernel
set_option maxRecDepth 65536 in
theorem w_named : about1.methodNamed? x = some theMethod := by decide +kernel
set_option maxRecDepth 65536 in
theorem w_hears : about1.hears theMethod below0 = true := by decide +kernel
set_option maxRecDepth 65536 in
theorem w_ripe : about1.ripe theMethod args0 below0 = true := by decide +kernel
theorem w_running : about1.status = .running := rfl
set_option maxRecDepth 65536 in
theorem w_room : about1.hasRoom e0.platform room_1 = true :=
  launch0.hasRoom_least _ room_1 (by decide +kernel) (by decide +kernel) (by decide +kernel) (by decide +kernel) (by decide +kernel) (by decide +kernel)
theorem allAtoms_all (ts : List Jvm.Cond) (a : Array Jvm.Value) (st : Jvm.State) : (allAtoms ts).before a st = ts.all (fun c => c.before a st) := by
  induction ts with
  | nil => rfl
  | cons c t ih =>
    show (Jvm.Cond.and c (allAtoms t)).before a st = _
    rw [Jvm.Cond.before_and, ih, List.all_cons]
def words1 : List Jvm.Cond := Jvm.Cond.code x code maxLocals ret :: tables_1
/-- a 'code' word, met by the world's own term for the bytes: nothing is compared byte by byte -/
theorem code_word {y : MethodName} {bytes : ByteArray} {mx : Nat} {rt : Option FieldType} {a : Array Value} {s : State} {m : MethodId} {meth : Method} {c : Code} (h1 : s.methodNamed? y = some m) (h2 : s.vm.method? m = some meth) (h3 : meth.code = some c) (h4 : c.code = bytes)
    (h5 : (c.maxLocals == mx && c.exceptionTable.isEmpty && decide (c.maxStack ≤ mostOperands) && decide (meth.sig.returnType = rt) && !meth.locks && decide (parseMethodDescriptor y.desc = some meth.sig)) = true) : (Jvm.Cond.code y bytes mx rt).before a s = true := by
  simp only [Bool.and_eq_true, beq_iff_eq, Bool.not_eq_true', decide_eq_true_eq] at h5
  obtain ⟨⟨⟨⟨⟨g1, g2⟩, g3⟩, g4⟩, g5⟩, g6⟩ := h5
  simp [Cond.before, Cond.holds, Cond.value, h1, h2, h3, h4, g1, g2, g3, g4, g5, g6]
def isCode : Jvm.Cond → Bool
  | .code _ _ _ _ => true
  | _ => false
theorem all_split {L : List Jvm.Cond} {P : Jvm.Cond → Bool} (h1 : L.all (fun c => isCode c || P c) = true) (h2 : ∀ c ∈ L.filter isCode, P c = true) : L.all P = true := by
  refine List.all_eq_true.mpr fun c hc => ?_
  have h := List.all_eq_true.mp h1 c hc
  rcases Bool.eq_false_or_eq_true (isCode c) with hi | hi
  · exact h2 c (List.mem_filter.mpr ⟨hc, hi⟩)
  · simpa [hi] using h
set_option maxRecDepth 65536 in
theorem w_c0 : (Jvm.Cond.code x code maxLocals ret).before args0 about1 = true := code_word (m := ⟨1, 2⟩) (meth := k1m2) (c := k1c2) (by decide +kernel) rfl rfl rfl (by decide +kernel)
set_option maxRecDepth 65536 in
theorem w_c1 : (Jvm.Cond.code ({ cls := "com/example/assaybus/assaybus/link/Frame", name := "checksum", desc := "([B)I" } : Jvm.MethodName) prog_28_method_2_code (6 : Nat) (Option.some Jvm.ClassFile.FieldType.int)).before args0 about1 = true := code_word (m := ⟨3, 0⟩) (meth := k3m0) (c := k3c0) (by decide +kernel) rfl rfl rfl (by decide +kernel)
set_option maxRecDepth 65536 in
theorem w_c2 : (Jvm.Cond.code ({ cls := "com/example/assaybus/assaybus/link/FrameChecksumPinLaw", name := "at", desc := "(JI)B" } : Jvm.MethodName) method_2_code (3 : Nat) (Option.some Jvm.ClassFile.FieldType.byte)).before args0 about1 = true := code_word (m := ⟨1, 1⟩) (meth := k1m1) (c := k1c1) (by decide +kernel) rfl rfl rfl (by decide +kernel)
def codes1 : List Jvm.Cond := [Jvm.Cond.code x code maxLocals ret, Jvm.Cond.code ({ cls := "com/example/assaybus/assaybus/link/Frame", name := "checksum", desc := "([B)I" } : Jvm.MethodName) prog_28_method_2_code (6 : Nat) (Option.some Jvm.ClassFile.FieldType.int), Jvm.Cond.code ({ cls := "com/example/assaybus/assaybus/link/FrameChecksumPinLaw", name := "at", desc := "(JI)B" } : Jvm.MethodName) method_2_code (3 : Nat) (Option.some Jvm.ClassFile.FieldType.byte)]
set_option maxRecDepth 65536 in
theorem codes_eq : words1.filter isCode = codes1 := rfl
theorem w_codes : ∀ c ∈ words1.filter isCode, c.before args0 about1 = true := by
  rw [codes_eq]
  intro c hc
  simp only [codes1, List.mem_cons, List.not_mem_nil, or_false] at hc
  rcases hc with rfl | rfl | rfl
  · exact w_c0
  · exact w_c1
  · exact w_c2
set_option maxRecDepth 65536 in
theorem w_t1 : words1.all (fun c => isCode c || c.before args0 about1) = true := by decide +kernel
theorem w_tables : (allAtoms (Jvm.Cond.code x code maxLocals ret :: tables_1)).before args0 about1 = true := by
  rw [allAtoms_all]
  show words1.all (fun c => c.before args0 about1) = true
  refine all_split ?_ w_codes
  rw [w_t1]
set_option maxRecDepth 65536 in
theorem w_case : (Jvm.Cond.and given_1 narrow_1).before args0 about1 = true := by decide +kernel
theorem w_applies : (headSpec (Jvm.Cond.code x code maxLocals ret :: tables_1) room_1).applies x e0.platform about1 = true :=
  (Spec.applies_iff w_frames).mpr ⟨w_running, w_runnable, w_alone, w_named, w_hears, w_ripe, w_room, w_tables⟩
theorem atStart : AtStart classFile x code maxLocals ret World_1 tables_1 room_1 Calls_1 rest_1 Pre_1 launch0 p0 e0 about1 theMethod args0 below0 :=
  ⟨lists_1, trivial, launch0.admits_env _ _ _, launch0.least_env, fairChoices_fair.cas, fairChoices_fair.clock, w_frames, w_args, w_heap, w_applies, trivial, trivial, w_case⟩
end start1
theorem witness_1 : WitnessClaimed_1 := ⟨start1.p0, start1.e0, start1.about1, start1.theMethod, start1.args0, start1.below0, start1.atStart⟩
end Jvm.Pilot.@@N@@
