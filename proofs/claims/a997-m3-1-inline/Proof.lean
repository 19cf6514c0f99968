import JvmDerived
import JvmDerived.Pilot.@@N@@Statement
import JvmDerived.Pilot.@@N@@Code
set_option linter.unusedVariables false
set_option maxRecDepth 65536
set_option maxHeartbeats 40000000
set_option linter.unusedSimpArgs false
namespace Jvm.RoadKit
open Sem ClassFile Op Lib Jvm.Stand Jvm.Free Jvm.LawKit
section New
variable {p : Program} {l : Launch} {e : Env} {R : Room} {s : State} {m : MethodId} {args : Array Value} {below : List Frame} {meth : Method} {c : Code} {T : State} {locs : List Loc} {cells slots : Nat}
theorem retI (X : Stand p l e R s m args below meth c T locs cells slots) (hx : p.tables.exec = Jvm.exec) {pc : Nat} {Ls : Array Slot} {z : Int32} {rest : List Value} (hret : meth.sig.returnType = some .int) (hd : decode c.code pc = .ok (.ireturn, 1)) {fs : List Frame}
    (hl : ∀ (f : JFrame) (acts : List Action), f.method = m → f.locked = none → f.entered = [] → (doReturn e (T.setTop f) acts (some (.int z))).1 = T.setFrames fs) : Steps p.tables e below (T.setTop (mkF m pc Ls (.int z :: rest))) (T.setFrames fs) := by
  have hm' : T.vm.method? m = some meth := X.method'
  have hn : narrow .int (.int z) = .int z := rfl
  show Steps _ _ _ (T.setTop { method := m, pc := pc, locals := Ls, stack := _ :: rest, locked := none }) _
  jvm_step X.here [X.here.top, hx, hd, hm', hret, hn]
  first | (intro acts; rw [hl _ acts rfl rfl rfl]) | rw [hl _ _ rfl rfl rfl]
  exact Steps.refl _
end New
end Jvm.RoadKit
namespace Jvm.Pilot.@@N@@
open Jvm Jvm.ClassFile Sem Op Lib Jvm.Free Jvm.Stand Jvm.LawKit Jvm.RoadKit Bundle Jvm.Pilot.@@N@@.Jvm.D
theorem wI {α : Type} {l : List α} (i : Nat) {c : α} (q : l[i]? = some c) : c ∈ l := List.mem_of_getElem? q
theorem wJ {Z : State} {a0 : Array Value} (hw : ∀ d ∈ tables_1, d.before a0 Z = true) (i : Nat) {c : Jvm.Cond} (q : tables_1[i]? = some c) : c.before a0 Z = true := hw _ (wI i q)
def c22 : ByteArray := jdk_42_method_152_code
def c21 : ByteArray := jdk_42_method_54_code
def c31 : ByteArray := jdk_68_method_68_code
def c25 : ByteArray := jdk_68_method_71_code
def c26 : ByteArray := jdk_42_method_147_code
def c24 : ByteArray := jdk_68_method_73_code
def c35 : ByteArray := jdk_29_method_65_code
def c37 : ByteArray := jdk_29_method_69_code
def c34 : ByteArray := jdk_48_method_27_code
def c33 : ByteArray := jdk_68_method_10_code
def c36 : ByteArray := jdk_65_method_121_code
def c23 : ByteArray := jdk_68_method_9_code
def c20 : ByteArray := jdk_68_method_22_code
def c19 : ByteArray := jdk_67_method_7_code
def c11 : ByteArray := jdk_68_method_2_code
def c10 : ByteArray := jdk_67_method_1_code
def c30 : ByteArray := jdk_35_method_15_code
def c32 : ByteArray := jdk_35_method_14_code
def c29 : ByteArray := jdk_68_method_33_code
def c28 : ByteArray := jdk_67_method_16_code
def c41 : ByteArray := jdk_68_method_64_code
def c43 : ByteArray := jdk_68_method_6_code
def c42 : ByteArray := jdk_67_method_93_code
def c46 : ByteArray := jdk_65_method_131_code
def c45 : ByteArray := jdk_65_method_133_code
def c44 : ByteArray := jdk_65_method_132_code
def c40 : ByteArray := jdk_42_method_150_code
def c39 : ByteArray := jdk_42_method_53_code
def c38 : ByteArray := jdk_67_method_42_code
def c4 : ByteArray := jdk_42_method_151_code
def c2 : ByteArray := jdk_43_method_3_code
def c3 : ByteArray := jdk_43_method_46_code
def c1 : ByteArray := jdk_42_method_139_code
def c15 : ByteArray := jdk_43_method_13_code
def c14 : ByteArray := jdk_42_method_66_code
def c7 : ByteArray := jdk_30_method_1_code
def c6 : ByteArray := prog_22_method_1_code
def c13 : ByteArray := prog_22_method_13_code
def c17 : ByteArray := prog_22_method_9_code
def c18 : ByteArray := prog_22_method_10_code
def c51 : ByteArray := prog_22_method_11_code
def c9 : ByteArray := prog_33_method_1_code
def c8 : ByteArray := prog_35_method_1_code
def c49 : ByteArray := prog_21_method_2_code
def c50 : ByteArray := prog_33_method_2_code
def c48 : ByteArray := prog_35_method_5_code
def c12 : ByteArray := prog_35_method_4_code
def c47 : ByteArray := prog_35_method_3_code
def c27 : ByteArray := prog_22_method_2_code
def c16 : ByteArray := prog_35_method_2_code
def mn0 : MethodName := ⟨"com/example/hemotide/hemotide/link/E1381", "frameNumberAfter", "(I)I"⟩
def mn1 : MethodName := ⟨"com/example/hemotide/hemotide/link/Frame", "<init>", "(JJJILjava/lang/String;ZZLjava/lang/String;)V"⟩
def mn2 : MethodName := ⟨"com/example/hemotide/hemotide/link/Frame", "defect", "()Ljava/lang/String;"⟩
def mn3 : MethodName := ⟨"com/example/hemotide/hemotide/link/Frame", "describe", "()Ljava/lang/String;"⟩
def mn4 : MethodName := ⟨"com/example/hemotide/hemotide/link/Frame", "endsRecord", "()Z"⟩
def mn5 : MethodName := ⟨"com/example/hemotide/hemotide/link/Frame", "number", "()I"⟩
def mn6 : MethodName := ⟨"com/example/hemotide/hemotide/link/Frame", "text", "()Ljava/lang/String;"⟩
def mn7 : MethodName := ⟨"com/example/hemotide/hemotide/link/MessageAssembler", "<init>", "()V"⟩
def mn8 : MethodName := ⟨"com/example/hemotide/hemotide/link/MessageAssembler", "add", "(Lcom/example/hemotide/hemotide/link/Frame;)Lcom/example/hemotide/hemotide/records/AstmMessage;"⟩
def mn9 : MethodName := ⟨"com/example/hemotide/hemotide/link/Transfer", "<init>", "()V"⟩
def mn10 : MethodName := ⟨"com/example/hemotide/hemotide/link/Transfer", "refusal", "(Lcom/example/hemotide/hemotide/link/Frame;)Ljava/lang/String;"⟩
def mn11 : MethodName := ⟨"com/example/hemotide/hemotide/link/Transfer", "refuse", "(Lcom/example/hemotide/hemotide/link/Frame;)Z"⟩
def mn12 : MethodName := ⟨"com/example/hemotide/hemotide/link/Transfer", "repeats", "(Lcom/example/hemotide/hemotide/link/Frame;)Z"⟩
def mn13 : MethodName := ⟨"com/example/hemotide/hemotide/link/Transfer", "take", "(Lcom/example/hemotide/hemotide/link/Frame;)Lcom/example/hemotide/hemotide/records/AstmMessage;"⟩
def mn14 : MethodName := ⟨"java/lang/AbstractStringBuilder", "<init>", "(I)V"⟩
def mn15 : MethodName := ⟨"java/lang/AbstractStringBuilder", "append", "(J)Ljava/lang/AbstractStringBuilder;"⟩
def mn16 : MethodName := ⟨"java/lang/AbstractStringBuilder", "append", "(Ljava/lang/String;)Ljava/lang/AbstractStringBuilder;"⟩
def mn17 : MethodName := ⟨"java/lang/AbstractStringBuilder", "ensureCapacityInternal", "(I)V"⟩
def mn18 : MethodName := ⟨"java/lang/AbstractStringBuilder", "getValue", "()[B"⟩
def mn19 : MethodName := ⟨"java/lang/AbstractStringBuilder", "inflateIfNeededFor", "(Ljava/lang/String;)V"⟩
def mn20 : MethodName := ⟨"java/lang/AbstractStringBuilder", "isLatin1", "()Z"⟩
def mn21 : MethodName := ⟨"java/lang/AbstractStringBuilder", "length", "()I"⟩
def mn22 : MethodName := ⟨"java/lang/AbstractStringBuilder", "newCapacity", "(I)I"⟩
def mn23 : MethodName := ⟨"java/lang/AbstractStringBuilder", "putStringAt", "(ILjava/lang/String;)V"⟩
def mn24 : MethodName := ⟨"java/lang/Long", "getChars", "(JI[B)I"⟩
def mn25 : MethodName := ⟨"java/lang/Long", "stringSize", "(J)I"⟩
def mn26 : MethodName := ⟨"java/lang/Math", "max", "(II)I"⟩
def mn27 : MethodName := ⟨"java/lang/Math", "min", "(II)I"⟩
def mn28 : MethodName := ⟨"java/lang/Record", "<init>", "()V"⟩
def mn29 : MethodName := ⟨"java/lang/String", "<init>", "(Ljava/lang/AbstractStringBuilder;Ljava/lang/Void;)V"⟩
def mn30 : MethodName := ⟨"java/lang/String", "<init>", "(Ljava/lang/StringBuilder;)V"⟩
def mn31 : MethodName := ⟨"java/lang/String", "<init>", "([BB)V"⟩
def mn32 : MethodName := ⟨"java/lang/String", "coder", "()B"⟩
def mn33 : MethodName := ⟨"java/lang/String", "equals", "(Ljava/lang/Object;)Z"⟩
def mn34 : MethodName := ⟨"java/lang/String", "getBytes", "([BIB)V"⟩
def mn35 : MethodName := ⟨"java/lang/String", "length", "()I"⟩
def mn36 : MethodName := ⟨"java/lang/String", "valueOf", "(C)Ljava/lang/String;"⟩
def mn37 : MethodName := ⟨"java/lang/StringBuilder", "<init>", "()V"⟩
def mn38 : MethodName := ⟨"java/lang/StringBuilder", "append", "(J)Ljava/lang/StringBuilder;"⟩
def mn39 : MethodName := ⟨"java/lang/StringBuilder", "append", "(Ljava/lang/String;)Ljava/lang/StringBuilder;"⟩
def mn40 : MethodName := ⟨"java/lang/StringBuilder", "length", "()I"⟩
def mn41 : MethodName := ⟨"java/lang/StringBuilder", "toString", "()Ljava/lang/String;"⟩
def mn42 : MethodName := ⟨"java/lang/StringLatin1", "canEncode", "(C)Z"⟩
def mn43 : MethodName := ⟨"java/lang/StringLatin1", "equals", "([B[B)Z"⟩
def mn44 : MethodName := ⟨"java/lang/StringLatin1", "toBytes", "(C)[B"⟩
def mn45 : MethodName := ⟨"java/util/Arrays", "checkLength", "(II)V"⟩
def mn46 : MethodName := ⟨"java/util/Arrays", "copyOf", "([BI)[B"⟩
def mn47 : MethodName := ⟨"java/util/Arrays", "copyOfRange", "([BII)[B"⟩
def mn48 : MethodName := ⟨"java/util/Arrays", "copyOfRangeByte", "([BII)[B"⟩
def mn49 : MethodName := ⟨"jdk/internal/util/ArraysSupport", "newLength", "(III)I"⟩
def lA2 (p1 : Int32) (p2 : Int32) (p3 : Int32) (p4 : Int32) : Array Slot := #[.val (.int p1), .val (.int p2), .val (.int p3), .val (.int p4), .unset, .unset, .unset, .unset, .unset, .unset, .unset, .unset, .unset, .unset, .unset, .unset, .unset, .unset, .unset, .unset, .unset, .unset]
def lA3 (p1 : Int32) (p2 : Int32) (p3 : Int32) (p4 : Int32) (bT : Int32) : Array Slot := #[.val (.int p1), .val (.int p2), .val (.int p3), .val (.int p4), .val (.int bT), .unset, .unset, .unset, .unset, .unset, .unset, .unset, .unset, .unset, .unset, .unset, .unset, .unset, .unset, .unset, .unset, .unset]
def lA4 (p1 : Int32) (p2 : Int32) (p3 : Int32) (p4 : Int32) (bT : Int32) (bF : Int32) : Array Slot := #[.val (.int p1), .val (.int p2), .val (.int p3), .val (.int p4), .val (.int bT), .val (.int bF), .unset, .unset, .unset, .unset, .unset, .unset, .unset, .unset, .unset, .unset, .unset, .unset, .unset, .unset, .unset, .unset]
def lA5 (p1 : Int32) (p2 : Int32) (p3 : Int32) (p4 : Int32) (bT : Int32) (bF : Int32) (bG : Int32) : Array Slot := #[.val (.int p1), .val (.int p2), .val (.int p3), .val (.int p4), .val (.int bT), .val (.int bF), .val (.int bG), .unset, .unset, .unset, .unset, .unset, .unset, .unset, .unset, .unset, .unset, .unset, .unset, .unset, .unset, .unset]
def lA6 (p1 : Int32) (p2 : Int32) (p3 : Int32) (p4 : Int32) (bT : Int32) (bF : Int32) (bG : Int32) (nn : Int32) : Array Slot := #[.val (.int p1), .val (.int p2), .val (.int p3), .val (.int p4), .val (.int bT), .val (.int bF), .val (.int bG), .val (.int nn), .unset, .unset, .unset, .unset, .unset, .unset, .unset, .unset, .unset, .unset, .unset, .unset, .unset, .unset]
def lA7 (p1 : Int32) (p2 : Int32) (p3 : Int32) (p4 : Int32) (bT : Int32) (bF : Int32) (bG : Int32) (nn : Int32) (tF : Addr) : Array Slot := #[.val (.int p1), .val (.int p2), .val (.int p3), .val (.int p4), .val (.int bT), .val (.int bF), .val (.int bG), .val (.int nn), .val (.ref tF), .unset, .unset, .unset, .unset, .unset, .unset, .unset, .unset, .unset, .unset, .unset, .unset, .unset]
def lA8 (p1 : Int32) (p2 : Int32) (p3 : Int32) (p4 : Int32) (bT : Int32) (bF : Int32) (bG : Int32) (nn : Int32) (tF : Addr) (tG : Addr) : Array Slot := #[.val (.int p1), .val (.int p2), .val (.int p3), .val (.int p4), .val (.int bT), .val (.int bF), .val (.int bG), .val (.int nn), .val (.ref tF), .val (.ref tG), .unset, .unset, .unset, .unset, .unset, .unset, .unset, .unset, .unset, .unset, .unset, .unset]
def lA9 (p1 : Int32) (p2 : Int32) (p3 : Int32) (p4 : Int32) (bT : Int32) (bF : Int32) (bG : Int32) (nn : Int32) (tF : Addr) (tG : Addr) (tH : Addr) : Array Slot := #[.val (.int p1), .val (.int p2), .val (.int p3), .val (.int p4), .val (.int bT), .val (.int bF), .val (.int bG), .val (.int nn), .val (.ref tF), .val (.ref tG), .val (.ref tH), .unset, .unset, .unset, .unset, .unset, .unset, .unset, .unset, .unset, .unset, .unset]
def lA10 (p1 : Int32) (p2 : Int32) (p3 : Int32) (p4 : Int32) (bT : Int32) (bF : Int32) (bG : Int32) (nn : Int32) (tF : Addr) (tG : Addr) (tH : Addr) (tA : Addr) : Array Slot := #[.val (.int p1), .val (.int p2), .val (.int p3), .val (.int p4), .val (.int bT), .val (.int bF), .val (.int bG), .val (.int nn), .val (.ref tF), .val (.ref tG), .val (.ref tH), .val (.ref tA), .unset, .unset, .unset, .unset, .unset, .unset, .unset, .unset, .unset, .unset]
def lA11 (p1 : Int32) (p2 : Int32) (p3 : Int32) (p4 : Int32) (bT : Int32) (bF : Int32) (bG : Int32) (nn : Int32) (tF : Addr) (tG : Addr) (tH : Addr) (tA : Addr) (fa : Addr) : Array Slot := #[.val (.int p1), .val (.int p2), .val (.int p3), .val (.int p4), .val (.int bT), .val (.int bF), .val (.int bG), .val (.int nn), .val (.ref tF), .val (.ref tG), .val (.ref tH), .val (.ref tA), .val (.ref fa), .unset, .unset, .unset, .unset, .unset, .unset, .unset, .unset, .unset]
def lA12 (p1 : Int32) (p2 : Int32) (p3 : Int32) (p4 : Int32) (bT : Int32) (bF : Int32) (bG : Int32) (nn : Int32) (tF : Addr) (tG : Addr) (tH : Addr) (tA : Addr) (fa : Addr) (ff : Addr) : Array Slot := #[.val (.int p1), .val (.int p2), .val (.int p3), .val (.int p4), .val (.int bT), .val (.int bF), .val (.int bG), .val (.int nn), .val (.ref tF), .val (.ref tG), .val (.ref tH), .val (.ref tA), .val (.ref fa), .val (.ref ff), .unset, .unset, .unset, .unset, .unset, .unset, .unset, .unset]
def lA13 (p1 : Int32) (p2 : Int32) (p3 : Int32) (p4 : Int32) (bT : Int32) (bF : Int32) (bG : Int32) (nn : Int32) (tF : Addr) (tG : Addr) (tH : Addr) (tA : Addr) (fa : Addr) (ff : Addr) (fg : Addr) : Array Slot := #[.val (.int p1), .val (.int p2), .val (.int p3), .val (.int p4), .val (.int bT), .val (.int bF), .val (.int bG), .val (.int nn), .val (.ref tF), .val (.ref tG), .val (.ref tH), .val (.ref tA), .val (.ref fa), .val (.ref ff), .val (.ref fg), .unset, .unset, .unset, .unset, .unset, .unset, .unset]
def lA14 (p1 : Int32) (p2 : Int32) (p3 : Int32) (p4 : Int32) (bT : Int32) (bF : Int32) (bG : Int32) (nn : Int32) (tF : Addr) (tG : Addr) (tH : Addr) (tA : Addr) (fa : Addr) (ff : Addr) (fg : Addr) (dd : Int32) : Array Slot := #[.val (.int p1), .val (.int p2), .val (.int p3), .val (.int p4), .val (.int bT), .val (.int bF), .val (.int bG), .val (.int nn), .val (.ref tF), .val (.ref tG), .val (.ref tH), .val (.ref tA), .val (.ref fa), .val (.ref ff), .val (.ref fg), .val (.int dd), .unset, .unset, .unset, .unset, .unset, .unset]
def lA15 (p1 : Int32) (p2 : Int32) (p3 : Int32) (p4 : Int32) (bT : Int32) (bF : Int32) (bG : Int32) (nn : Int32) (tF : Addr) (tG : Addr) (tH : Addr) (tA : Addr) (fa : Addr) (ff : Addr) (fg : Addr) (dd : Int32) (fh : Addr) : Array Slot := #[.val (.int p1), .val (.int p2), .val (.int p3), .val (.int p4), .val (.int bT), .val (.int bF), .val (.int bG), .val (.int nn), .val (.ref tF), .val (.ref tG), .val (.ref tH), .val (.ref tA), .val (.ref fa), .val (.ref ff), .val (.ref fg), .val (.int dd), .val (.ref fh), .unset, .unset, .unset, .unset, .unset]
def lA16 (p1 : Int32) (p2 : Int32) (p3 : Int32) (p4 : Int32) (bT : Int32) (bF : Int32) (bG : Int32) (nn : Int32) (tF : Addr) (tG : Addr) (tH : Addr) (tA : Addr) (fa : Addr) (ff : Addr) (fg : Addr) (dd : Int32) (fh : Addr) (tt : Addr) : Array Slot := #[.val (.int p1), .val (.int p2), .val (.int p3), .val (.int p4), .val (.int bT), .val (.int bF), .val (.int bG), .val (.int nn), .val (.ref tF), .val (.ref tG), .val (.ref tH), .val (.ref tA), .val (.ref fa), .val (.ref ff), .val (.ref fg), .val (.int dd), .val (.ref fh), .val (.ref tt), .unset, .unset, .unset, .unset]
def lA17 (p1 : Int32) (p2 : Int32) (p3 : Int32) (p4 : Int32) (bT : Int32) (bF : Int32) (bG : Int32) (nn : Int32) (tF : Addr) (tG : Addr) (tH : Addr) (tA : Addr) (fa : Addr) (ff : Addr) (fg : Addr) (dd : Int32) (fh : Addr) (tt : Addr) : Array Slot := #[.val (.int p1), .val (.int p2), .val (.int p3), .val (.int p4), .val (.int bT), .val (.int bF), .val (.int bG), .val (.int nn), .val (.ref tF), .val (.ref tG), .val (.ref tH), .val (.ref tA), .val (.ref fa), .val (.ref ff), .val (.ref fg), .val (.int dd), .val (.ref fh), .val (.ref tt), .val (.int (1 : Int32)), .unset, .unset, .unset]
def lA18 (p1 : Int32) (p2 : Int32) (p3 : Int32) (p4 : Int32) (bT : Int32) (bF : Int32) (bG : Int32) (nn : Int32) (tF : Addr) (tG : Addr) (tH : Addr) (tA : Addr) (fa : Addr) (ff : Addr) (fg : Addr) (dd : Int32) (fh : Addr) (tt : Addr) : Array Slot := #[.val (.int p1), .val (.int p2), .val (.int p3), .val (.int p4), .val (.int bT), .val (.int bF), .val (.int bG), .val (.int nn), .val (.ref tF), .val (.ref tG), .val (.ref tH), .val (.ref tA), .val (.ref fa), .val (.ref ff), .val (.ref fg), .val (.int dd), .val (.ref fh), .val (.ref tt), .val (.int (1 : Int32)), .val (.ref tF), .unset, .unset]
def lA19 (p1 : Int32) (p2 : Int32) (p3 : Int32) (p4 : Int32) (bT : Int32) (bF : Int32) (bG : Int32) (nn : Int32) (tF : Addr) (tG : Addr) (tH : Addr) (tA : Addr) (fa : Addr) (ff : Addr) (fg : Addr) (dd : Int32) (fh : Addr) (tt : Addr) : Array Slot := #[.val (.int p1), .val (.int p2), .val (.int p3), .val (.int p4), .val (.int bT), .val (.int bF), .val (.int bG), .val (.int nn), .val (.ref tF), .val (.ref tG), .val (.ref tH), .val (.ref tA), .val (.ref fa), .val (.ref ff), .val (.ref fg), .val (.int dd), .val (.ref fh), .val (.ref tt), .val (.int (1 : Int32)), .val (.ref tG), .unset, .unset]
def lA20 (p1 : Int32) (p2 : Int32) (p3 : Int32) (p4 : Int32) (bT : Int32) (bF : Int32) (bG : Int32) (nn : Int32) (tF : Addr) (tG : Addr) (tH : Addr) (tA : Addr) (fa : Addr) (ff : Addr) (fg : Addr) (dd : Int32) (fh : Addr) (tt : Addr) (tx : Addr) : Array Slot := #[.val (.int p1), .val (.int p2), .val (.int p3), .val (.int p4), .val (.int bT), .val (.int bF), .val (.int bG), .val (.int nn), .val (.ref tF), .val (.ref tG), .val (.ref tH), .val (.ref tA), .val (.ref fa), .val (.ref ff), .val (.ref fg), .val (.int dd), .val (.ref fh), .val (.ref tt), .val (.int (1 : Int32)), .val (.ref tx), .unset, .unset]
def lA21 (p1 : Int32) (p2 : Int32) (p3 : Int32) (p4 : Int32) (bT : Int32) (bF : Int32) (bG : Int32) (nn : Int32) (tF : Addr) (tG : Addr) (tH : Addr) (tA : Addr) (fa : Addr) (ff : Addr) (fg : Addr) (dd : Int32) (fh : Addr) (tt : Addr) (tx : Addr) : Array Slot := #[.val (.int p1), .val (.int p2), .val (.int p3), .val (.int p4), .val (.int bT), .val (.int bF), .val (.int bG), .val (.int nn), .val (.ref tF), .val (.ref tG), .val (.ref tH), .val (.ref tA), .val (.ref fa), .val (.ref ff), .val (.ref fg), .val (.int dd), .val (.ref fh), .val (.ref tt), .val (.int (1 : Int32)), .val (.ref tx), .val (.int (0 : Int32)), .unset]
def lA22 (p1 : Int32) (p2 : Int32) (p3 : Int32) (p4 : Int32) (bT : Int32) (bF : Int32) (bG : Int32) (nn : Int32) (tF : Addr) (tG : Addr) (tH : Addr) (tA : Addr) (fa : Addr) (ff : Addr) (fg : Addr) (dd : Int32) (fh : Addr) (tt : Addr) (tx : Addr) : Array Slot := #[.val (.int p1), .val (.int p2), .val (.int p3), .val (.int p4), .val (.int bT), .val (.int bF), .val (.int bG), .val (.int nn), .val (.ref tF), .val (.ref tG), .val (.ref tH), .val (.ref tA), .val (.ref fa), .val (.ref ff), .val (.ref fg), .val (.int dd), .val (.ref fh), .val (.ref tt), .val (.int (1 : Int32)), .val (.ref tx), .val (.int (1 : Int32)), .unset]
def lA23 (p1 : Int32) (p2 : Int32) (p3 : Int32) (p4 : Int32) (bT : Int32) (bF : Int32) (bG : Int32) (nn : Int32) (tF : Addr) (tG : Addr) (tH : Addr) (tA : Addr) (fa : Addr) (ff : Addr) (fg : Addr) (dd : Int32) (fh : Addr) (tt : Addr) : Array Slot := #[.val (.int p1), .val (.int p2), .val (.int p3), .val (.int p4), .val (.int bT), .val (.int bF), .val (.int bG), .val (.int nn), .val (.ref tF), .val (.ref tG), .val (.ref tH), .val (.ref tA), .val (.ref fa), .val (.ref ff), .val (.ref fg), .val (.int dd), .val (.ref fh), .val (.ref tt), .val (.int (1 : Int32)), .val .null, .unset, .unset]
def lA24 (p1 : Int32) (p2 : Int32) (p3 : Int32) (p4 : Int32) (bT : Int32) (bF : Int32) (bG : Int32) (nn : Int32) (tF : Addr) (tG : Addr) (tH : Addr) (tA : Addr) (fa : Addr) (ff : Addr) (fg : Addr) (dd : Int32) (fh : Addr) (tt : Addr) : Array Slot := #[.val (.int p1), .val (.int p2), .val (.int p3), .val (.int p4), .val (.int bT), .val (.int bF), .val (.int bG), .val (.int nn), .val (.ref tF), .val (.ref tG), .val (.ref tH), .val (.ref tA), .val (.ref fa), .val (.ref ff), .val (.ref fg), .val (.int dd), .val (.ref fh), .val (.ref tt), .val (.int (1 : Int32)), .val .null, .val (.int (0 : Int32)), .unset]
def lA26 (p1 : Int32) (p2 : Int32) (p3 : Int32) (p4 : Int32) (bT : Int32) (bF : Int32) (bG : Int32) (nn : Int32) (tF : Addr) (tG : Addr) (tH : Addr) (tA : Addr) (fa : Addr) (ff : Addr) (fg : Addr) (dd : Int32) (fh : Addr) (tt : Addr) (xv : Value) (rr : Int32) : Array Slot := #[.val (.int p1), .val (.int p2), .val (.int p3), .val (.int p4), .val (.int bT), .val (.int bF), .val (.int bG), .val (.int nn), .val (.ref tF), .val (.ref tG), .val (.ref tH), .val (.ref tA), .val (.ref fa), .val (.ref ff), .val (.ref fg), .val (.int dd), .val (.ref fh), .val (.ref tt), .val (.int (1 : Int32)), .val xv, .val (.int rr), .val (.int rr)]
theorem own_decl {Z : State} {a0 : Array Value} {y : MethodName} {bytes : ByteArray} {maxL : Nat} {ret : Option FieldType} (wi : (Jvm.Cond.instanceMethod y).before a0 Z = true) (wc : (Jvm.Cond.code y bytes maxL ret).before a0 Z = true) : (Jvm.Cond.declares y).before a0 Z = true := by
  obtain ⟨mk, meth, hn, hm, hst, -⟩ := Cond.instanceMethod_spec wi
  obtain ⟨meth', c, hm', -, -, -, -, -, -, hsig⟩ := Cond.code_spec hn wc
  cases hm.symm.trans hm'
  simp [Cond.before, Cond.holds, Cond.value, hn, hm, hst, hsig]
theorem own_nf {args : Array Value} {s : State} {C : String} {x y z : MethodName} (hsel : (Jvm.Cond.selects C x z).before args s = true) (e : y.cls = z.cls) : NotFace s y := fun r0 h0 => by
  obtain ⟨c2, r2, m2, q1, q2, q3, q4, kP, hkP, hkPi⟩ := Cond.selects_spec hsel
  have a := findClass_of_methodNamed h0
  have b := findClass_of_methodNamed q3
  rw [e] at a
  have q : m2.cls = r0.cls := Option.some.inj (b.symm.trans a)
  exact ⟨kP, q ▸ hkP, hkPi⟩
theorem own_same {Z : State} {a0 : Array Value} {C : String} {x y z : MethodName} {bytes : ByteArray} {maxL : Nat} {ret : Option FieldType} (hsel : (Jvm.Cond.selects C x z).before a0 Z = true) (wc : (Jvm.Cond.code y bytes maxL ret).before a0 Z = true) (e : y.cls = z.cls) (hy : y.cls ≠ "java/lang/invoke/MethodHandle" ∧ y.cls ≠ "java/lang/invoke/VarHandle") : (Jvm.Cond.sameMethod y.cls y.cls y.name y.desc).before a0 Z = true := by
  obtain ⟨mk, hn⟩ := Cond.code_named wc
  obtain ⟨k, hk, hki⟩ := own_nf hsel e _ hn
  have hf := State.methodFound?_of_named hn hy
  have hc := findClass_of_methodNamed hn
  simp [Cond.before, Cond.holds, Cond.value, hc, hf, hn, hk, hki]
/-- only cells from nb on are changed or made -/
def own_W (nb : Nat) (h h' : Heap) : Prop := ∃ ws : List Addr, Keep h h' ws ∧ ∀ x ∈ ws, nb ≤ x
theorem own_W.refl (nb : Nat) (h : Heap) : own_W nb h h := ⟨[], Keep.refl h [], all0⟩
theorem own_W.size {nb : Nat} {h h' : Heap} (W : own_W nb h h') : h.size ≤ h'.size := by obtain ⟨ws, K, q⟩ := W; exact K.1
theorem own_W.mono {nb n2 : Nat} {h h' : Heap} (q : nb ≤ n2) (W : own_W n2 h h') : own_W nb h h' := by obtain ⟨ws, K, r⟩ := W; exact ⟨ws, K, fun x hx => Nat.le_trans q (r x hx)⟩
theorem own_W.keep {nb : Nat} {h h' h2 : Heap} {ws : List Addr} (W : own_W nb h h') (K : Keep h' h2 ws) (q : ∀ x ∈ ws, nb ≤ x) : own_W nb h h2 := by
  obtain ⟨ws0, K0, q0⟩ := W
  have K1 : Keep h h' (ws0 ++ ws) := ⟨K0.1, fun x c hx r => K0.2.1 x c hx fun z => r (List.mem_append_left _ z), K0.2.2⟩
  exact ⟨ws0 ++ ws, K1.trans K fun x hx => Or.inl (List.mem_append_right _ hx), fun x hx => (List.mem_append.mp hx).elim (q0 x) (q x)⟩
theorem own_W.trans {nb : Nat} {h h' h2 : Heap} (W : own_W nb h h') (V : own_W nb h' h2) : own_W nb h h2 := by obtain ⟨ws, K, q⟩ := V; exact W.keep K q
theorem own_W.ext {nb : Nat} {h h' h2 : Heap} (W : own_W nb h h') (E : Ext h' h2) : own_W nb h h2 := W.keep ((Keep.refl h' []).ext E) all0
theorem own_W.wr {nb : Nat} {h h' h2 : Heap} {a : Addr} {sl : Nat} {v : Value} (W : own_W nb h h') (V : Wr h' h2 a sl v) (q : nb ≤ a) : own_W nb h h2 := W.keep (Keep.of_wr V) (allS q all0)
theorem own_W.fld {Z : State} {nb : Nat} {h h' : Heap} {a : Addr} {C n d : String} {v : Value} (F : Fld Z h a C n d v) (q : a < nb) (W : own_W nb h h') : Fld Z h' a C n d v := by obtain ⟨ws, K, r⟩ := W; exact F.keep K fun z => Nat.not_lt.mpr (r a z) q
theorem own_W.exa {Z : State} {nb : Nat} {h h' : Heap} {a : Addr} {C : String} (F : Exa Z h a C) (q : a < nb) (W : own_W nb h h') : Exa Z h' a C := by obtain ⟨ws, K, r⟩ := W; exact F.keep K
theorem own_W.arv {Z : State} {nb : Nat} {h h' : Heap} {a : Addr} {k : ClassId} {ty : FieldType} {z : Int32} {vs : List Value} {d : Value} (F : Arv Z h a k ty z vs d) (q : a < nb) (W : own_W nb h h') : Arv Z h' a k ty z vs d := by obtain ⟨ws, K, r⟩ := W; exact F.keep K fun z => Nat.not_lt.mpr (r a z) q
/-- a static whose cell lies below nb -/
def own_S (Z : State) (h : Heap) (nb : Nat) (C n d : String) (v : Value) : Prop := ∃ (cf i : Nat) (k : Class) (f : Field) (st : Addr) (cell : Cell), Z.fieldFound? C n d = some (cf, k, i, f) ∧ f.isStatic = true ∧ k.init = .initialized ∧ k.statics = some st ∧ h[st]? = some cell ∧ cell.vm.isStatics = true ∧ cell.slots[f.slot]? = some v ∧ st < nb
theorem own_S.sta {Z : State} {h : Heap} {nb : Nat} {C n d : String} {v : Value} (S : own_S Z h nb C n d v) : Sta Z h C n d v := by
  obtain ⟨cf, i, k, f, st, cell, h1, h2, h3, h4, h5, h6, h7, -⟩ := S
  exact ⟨cf, i, k, f, st, cell, h1, h2, h3, h4, h5, h6, h7⟩
theorem own_S.start {Z : State} {h : Heap} {C n d : String} {v : Value} (S : Sta Z h C n d v) : own_S Z h h.size C n d v := by
  obtain ⟨cf, i, k, f, st, cell, h1, h2, h3, h4, h5, h6, h7⟩ := S
  exact ⟨cf, i, k, f, st, cell, h1, h2, h3, h4, h5, h6, h7, (Array.getElem?_eq_some_iff.mp h5).1⟩
theorem own_S.mono {Z : State} {h : Heap} {nb n2 : Nat} {C n d : String} {v : Value} (q : nb ≤ n2) (S : own_S Z h nb C n d v) : own_S Z h n2 C n d v := by
  obtain ⟨cf, i, k, f, st, cell, h1, h2, h3, h4, h5, h6, h7, h8⟩ := S
  exact ⟨cf, i, k, f, st, cell, h1, h2, h3, h4, h5, h6, h7, Nat.lt_of_lt_of_le h8 q⟩
theorem own_S.W {Z : State} {h h' : Heap} {nb : Nat} {C n d : String} {v : Value} (S : own_S Z h nb C n d v) (W : own_W nb h h') : own_S Z h' nb C n d v := by
  obtain ⟨cf, i, k, f, st, cell, h1, h2, h3, h4, h5, h6, h7, h8⟩ := S
  obtain ⟨ws, K, r⟩ := W
  exact ⟨cf, i, k, f, st, cell, h1, h2, h3, h4, K.2.1 _ _ h5 fun z => Nat.not_lt.mpr (r _ z) h8, h6, h7, h8⟩
theorem own_shr0 (z : Int32) : (z >>> ((0 : Int32) &&& 31)) = z := by
  have h := c_ishr z 0 0 (by decide)
  apply Int32.toInt_inj.mp; rw [h]; simp
theorem own_shl0 (z : Int32) : (z <<< ((0 : Int32) &&& 31)) = z := by
  have h : ((z <<< ((0 : Int32) &&& 31)).toInt - z.toInt * ((1 : Nat) : Int)) % 4294967296 = 0 := c_ishl z 0 0 (by decide)
  have r1 := rng32 z
  have r2 := rng32 (z <<< ((0 : Int32) &&& 31))
  apply Int32.toInt_inj.mp; omega
theorem own_len (vd : List Value) {d n s : Nat} {vs : List Value} {dv : Value} (us : List Value) (hu : us = (List.range n).map fun i => vs.getD (s + i) dv) (h : d + n ≤ vd.length) : (vd.take d ++ us ++ vd.drop (d + n)).length = vd.length := by
  rw [hu]; simp only [List.length_append, List.length_take, List.length_map, List.length_range, List.length_drop]; omega
/-- a String of Latin-1, by its length -/
def own_str (Z : State) (h : Heap) (t : Addr) (z : Int32) : Prop := ∃ (b : Addr) (k : ClassId) (vs : List Value), Exa Z h t "java/lang/String" ∧ Fld Z h t "java/lang/String" "value" "[B" (.ref b) ∧ Fld Z h t "java/lang/String" "coder" "B" (.int (0 : Int32)) ∧ Arv Z h b k .byte z vs (.int (0 : Int32)) ∧ vs.length = z.toNatClampNeg
/-- a StringBuilder of Latin-1, by its capacity and its count; its cells lie from nb on -/
def own_sb (Z : State) (h : Heap) (nb : Nat) (a : Addr) (cap cnt : Int32) : Prop := ∃ (b : Addr) (k : ClassId) (vs : List Value), Exa Z h a "java/lang/StringBuilder" ∧ Fld Z h a "java/lang/AbstractStringBuilder" "value" "[B" (.ref b) ∧ Fld Z h a "java/lang/AbstractStringBuilder" "coder" "B" (.int (0 : Int32)) ∧ Fld Z h a "java/lang/AbstractStringBuilder" "count" "I" (.int cnt) ∧ Arv Z h b k .byte cap vs (.int (0 : Int32)) ∧ vs.length = cap.toNatClampNeg ∧ nb ≤ a ∧ nb ≤ b ∧ a ≠ b ∧ Exa Z h b "[B"
theorem own_str.keep {Z : State} {h h' : Heap} {t : Addr} {z : Int32} (S : own_str Z h t z) (K : Keep h h' []) : own_str Z h' t z := by
  obtain ⟨b, k, vs, e, f1, f2, v, hl⟩ := S
  exact ⟨b, k, vs, e.keep K, f1.keep K nin0, f2.keep K nin0, v.keep K nin0, hl⟩
theorem own_str.W {Z : State} {h h' : Heap} {nb : Nat} {t : Addr} {z : Int32} (S : own_str Z h t z) (q : h.size ≤ nb) (W : own_W nb h h') : own_str Z h' t z := by
  obtain ⟨b, k, vs, e, f1, f2, v, hl⟩ := S
  exact ⟨b, k, vs, own_W.exa e (Nat.lt_of_lt_of_le f1.lt q) W, own_W.fld f1 (Nat.lt_of_lt_of_le f1.lt q) W, own_W.fld f2 (Nat.lt_of_lt_of_le f1.lt q) W, own_W.arv v (Nat.lt_of_lt_of_le v.lt q) W, hl⟩
theorem own_sb.keep {Z : State} {h h' : Heap} {nb : Nat} {a : Addr} {cap cnt : Int32} (S : own_sb Z h nb a cap cnt) (K : Keep h h' []) : own_sb Z h' nb a cap cnt := by
  obtain ⟨b, k, vs, e, f1, f2, f3, v, r1, r2, r3, r4, r5⟩ := S
  exact ⟨b, k, vs, e.keep K, f1.keep K nin0, f2.keep K nin0, f3.keep K nin0, v.keep K nin0, r1, r2, r3, r4, r5.keep K⟩
theorem d22_0 : decode c22 0 = .ok (.getstatic 38, 3) := by decide +kernel
theorem d22_3 : decode c22 3 = .ok (.ifCond .eq 10, 3) := by decide +kernel
theorem d22_6 : decode c22 6 = .ok (.aload_n 0, 1) := by decide +kernel
theorem d22_7 : decode c22 7 = .ok (.getfield 15, 3) := by decide +kernel
theorem d22_10 : decode c22 10 = .ok (.goto 4, 3) := by decide +kernel
theorem d22_14 : decode c22 14 = .ok (.ireturn, 1) := by decide +kernel
theorem pn_java_lang_String : plainName "java/lang/String" = true := by first | (simp [plainName, overriddenIn]; done) | decide +kernel
theorem ef_own_coder (m : MethodId) (x0 : Addr) : entryFrame m #[(.ref x0)] 1 = mkF m 0 #[.val (.ref x0)] [] := by first | (simp [entryFrame, mkF, argsToLocals, Value.category]; done) | rfl
def Qown_coder (Z : State) (a1 : Addr) (cs : Int32) (nb : Nat) (h0 : Heap) (n0 : Nat) (v : Option Value) (h : Heap) (L : List Loc) : Prop := v = some (.int (0 : Int32)) ∧ Fr n0 L ∧ h = h0
theorem own_coder (l : Launch) (Z : State) (a0 : Array Value) (hw : ∀ d ∈ tables_1, d.before a0 Z = true) (ws : List Jvm.Cond) (a1 : Addr) (cs : Int32) (nb : Nat) (h0 : Heap) (n0 : Nat) (Z0 : n0 ≤ h0.size) (F2 : Fld Z h0 a1 "java/lang/String" "coder" "B" (.int (0 : Int32))) (SC : own_S Z h0 nb "java/lang/String" "COMPACT_STRINGS" "Z" (.int cs)) (hcs : ¬ (cs = (0 : Int32))) :
    MetFree l mn32 (head1 (Jvm.Cond.code mn32 jdk_42_method_152_code 1 (some .byte) :: ws) (⟨0, 0, 0, 0⟩ : Room)) (fun a U => a = #[(.ref a1)] ∧ Z.Warmed39 U.vm ∧ U.heap = h0) (fun _ _ _ _ _ => True) (fun _ U o U' => ∃ v L, o = .returned v ∧ Qown_coder Z a1 cs nb h0 n0 v U'.heap L ∧ FrameEnd U o U' L (⟨0, 0, 0, 0⟩ : Room).cells (⟨0, 0, 0, 0⟩ : Room).slots) := by
  refine MetFree.of_bodySF (plainFor_of_name pn_java_lang_String) hisR ?_
  intro p e s m args below meth c s₁ Bd hml0 hP hK
  obtain ⟨rfl, hZ, hh⟩ := hP
  have hx := Bd.exec
  have hby := Bd.bytes
  have hml : c.maxLocals = 1 := hml0
  have hown : s.vm.findClass "java/lang/String" = some m.cls := findClass_of_methodNamed Bd.named
  have hnm := (name_of_methodNamed Bd.named Bd.method).1
  have X0 : Stand p l e (⟨0, 0, 0, 0⟩ : Room) s m #[(.ref a1)] below meth c s₁ [] 0 0 := Stand.of_body Bd
  have e0 : s₁.heap = h0 := by rw [← hh, Bd.state]; rfl
  have N0 := Fr.nil n0
  have pre0 : ∀ t, Steps p.tables e below (s₁.setTop (mkF m 0 #[.val (.ref a1)] [])) t → Steps p.tables e below (s₁.setTop (entryFrame m #[(.ref a1)] 1)) t := fun t k => castTop (ef_own_coder m (a1)) k
  obtain ⟨T1, X1, e1, st1⟩ := getS2 X0 hx hZ hown (host := "") (Or.inl (wJ hw 4 rfl)) Via.refl e0 SC.sta (g := (mkF m 0 #[.val (.ref a1)] [])) rfl (hb hby d22_0)
  obtain ⟨T2, X2, e2, st2⟩ := getF X1 hx hZ hown (host := "") (Or.inl (wJ hw 24 rfl)) Via.refl e1 F2 (g := (mkF m 7 #[.val (.ref a1)] [(.ref a1)])) rfl rfl (hb hby d22_7)
  obtain ⟨fs, hr, hrun, hended, hW, hsame⟩ := X2.leave (v := some (.int (0 : Int32))) (fun h => by rw [Bd.returns] at h; cases h)
  refine ⟨_, _, pre0 _ ?_, hrun, hended, _, _, rfl, ?_, ⟨_, rfl⟩, hW, hsame.mono (by decide) (by decide)⟩
  · show Steps p.tables e below (s₁.setTop (mkF m 0 #[.val (.ref a1)] [])) _
    refine st1 _ ?_
    refine XS.ifNo X1.here hx rfl (hb hby d22_3) rfl ((if0 _ _).trans (feq (hcs : ¬ (cs = (0 : Int32)))).1) ?_
    refine XS.aloadN X1.here hx rfl (hb hby d22_6) rfl rfl ?_
    refine st2 _ ?_
    show Steps _ _ _ (T2.setTop (mkF m 10 #[.val (.ref a1)] [(.int (0 : Int32))])) _
    refine XS.goto X2.here hx rfl (pc0 := 10) (pc' := 14) rfl (hb hby d22_10) (by decide) (by decide) ?_
    show Steps _ _ _ (T2.setTop (mkF m 14 #[.val (.ref a1)] [(.int (0 : Int32))])) _
    exact retN X2 hx (t := .byte) Bd.returns (by simp) (hb hby d22_14) hr
  · show Qown_coder Z a1 cs nb h0 n0 _ T2.heap _
    rw [e2]
    exact ⟨rfl, N0, rfl⟩
theorem d21_0 : decode c21 0 = .ok (.aload_n 0, 1) := by decide +kernel
theorem d21_1 : decode c21 1 = .ok (.getfield 9, 3) := by decide +kernel
theorem d21_4 : decode c21 4 = .ok (.arraylength, 1) := by decide +kernel
theorem d21_5 : decode c21 5 = .ok (.aload_n 0, 1) := by decide +kernel
theorem d21_6 : decode c21 6 = .ok (.invokevirtual 335, 3) := by decide +kernel
theorem pd___B : parseMethodDescriptor "()B" = some ⟨[], some .byte⟩ := by decide +kernel
theorem d21_9 : decode c21 9 = .ok (.ishr, 1) := by decide +kernel
theorem d21_10 : decode c21 10 = .ok (.ireturn, 1) := by decide +kernel
theorem ef_own_length (m : MethodId) (x0 : Addr) : entryFrame m #[(.ref x0)] 1 = mkF m 0 #[.val (.ref x0)] [] := by first | (simp [entryFrame, mkF, argsToLocals, Value.category]; done) | rfl
def Qown_length (Z : State) (a1 : Addr) (z : Int32) (cs : Int32) (nb : Nat) (h0 : Heap) (n0 : Nat) (v : Option Value) (h : Heap) (L : List Loc) : Prop := v = some (.int z) ∧ Fr n0 L ∧ h = h0
theorem own_length (l : Launch) (Z : State) (a0 : Array Value) (hw : ∀ d ∈ tables_1, d.before a0 Z = true) (ws : List Jvm.Cond) (a1 : Addr) (z : Int32) (cs : Int32) (nb : Nat) (h0 : Heap) (n0 : Nat) (Z0 : n0 ≤ h0.size) (S1 : own_str Z h0 a1 z) (SC : own_S Z h0 nb "java/lang/String" "COMPACT_STRINGS" "Z" (.int cs)) (hcs : ¬ (cs = (0 : Int32))) :
    MetFree l mn35 (head1 (Jvm.Cond.code mn35 jdk_42_method_54_code 1 (some .int) :: ws) (⟨1, 0, 0, 13⟩ : Room)) (fun a U => a = #[(.ref a1)] ∧ Z.Warmed39 U.vm ∧ U.heap = h0) (fun _ _ _ _ _ => True) (fun _ U o U' => ∃ v L, o = .returned v ∧ Qown_length Z a1 z cs nb h0 n0 v U'.heap L ∧ FrameEnd U o U' L (⟨1, 0, 0, 13⟩ : Room).cells (⟨1, 0, 0, 13⟩ : Room).slots) := by
  refine MetFree.of_bodySF (plainFor_of_name pn_java_lang_String) hisR ?_
  intro p e s m args below meth c s₁ Bd hml0 hP hK
  obtain ⟨rfl, hZ, hh⟩ := hP
  have hx := Bd.exec
  have hby := Bd.bytes
  have hml : c.maxLocals = 1 := hml0
  have hown : s.vm.findClass "java/lang/String" = some m.cls := findClass_of_methodNamed Bd.named
  have hnm := (name_of_methodNamed Bd.named Bd.method).1
  have X0 : Stand p l e (⟨1, 0, 0, 13⟩ : Room) s m #[(.ref a1)] below meth c s₁ [] 0 0 := Stand.of_body Bd
  have e0 : s₁.heap = h0 := by rw [← hh, Bd.state]; rfl
  have N0 := Fr.nil n0
  have pre0 : ∀ t, Steps p.tables e below (s₁.setTop (mkF m 0 #[.val (.ref a1)] [])) t → Steps p.tables e below (s₁.setTop (entryFrame m #[(.ref a1)] 1)) t := fun t k => castTop (ef_own_length m (a1)) k
  obtain ⟨b, k, vs, E1, F1, F2, V1, hl⟩ := S1
  obtain ⟨T1, X1, e1, st1⟩ := getF X0 hx hZ hown (host := "") (Or.inl (wJ hw 22 rfl)) Via.refl e0 F1 (g := (mkF m 1 #[.val (.ref a1)] [(.ref a1)])) rfl rfl (hb hby d21_1)
  obtain ⟨cl2, Ar2, qc2, S2, Nn2, H2, G2⟩ := id V1
  obtain ⟨cq3, kq3, q3a, q3b, q3c⟩ := isOf hZ e1 E1
  obtain ⟨_, _, ⟨T3, L3, k3, n3⟩, -, X3, ⟨Lc3, hQ3, l3, y3, z3⟩, st3⟩ := X1.virtualBack hx (y := mn32) (z := mn32) hown (mvT hZ (wJ hw 161 rfl)) (mvT hZ (wJ hw 162 rfl)) (notFace_of_selects (args := #[]) (mvT hZ (wJ hw 164 rfl))) (mvT hZ (wJ hw 164 rfl)) (mvT hZ (wJ hw 163 rfl)) (by decide) (backOf (W := 1) (own_coder l Z a0 hw [] a1 cs nb h0 n0 Z0 F2 SC hcs) hZ (wJ hw 165 rfl) (wJ hw 2 rfl) (by decide) (by decide)) q3a q3c (g := (mkF m 6 #[.val (.ref a1)] [(.ref a1), (.int z)])) rfl (by rw [hml]; rfl) (Steps.refl _) (argsL := []) (rest := [(.int z)]) (lenOf pd___B rfl) rfl (by show 2 * 0 + _ ≤ _; exact Nat.le_of_eq rfl) (hb hby d21_6) (fun _ _ => ⟨rfl, e1, (by decide : 0 + 0 ≤ _), (by decide : 0 + 0 ≤ _)⟩)
  dsimp only [Pt.U, Pt.locs, Pt.cells, Pt.slots] at X3 l3 y3 z3 st3 hQ3
  replace X3 := X3.more (Nat.le_of_eq (show k3 = 0 from y3)) (Nat.le_of_eq (show n3 = 0 from z3))
  obtain ⟨rfl, Nq3, e3⟩ := hQ3
  have N3 : Fr n0 L3 := by rw [l3]; exact Fr.app N0 Nq3
  obtain ⟨fs, hr, hrun, hended, hW, hsame⟩ := X3.leave (v := some (.int (z >>> ((0 : Int32) &&& 31)))) (fun h => by rw [Bd.returns] at h; cases h)
  refine ⟨_, _, pre0 _ ?_, hrun, hended, _, _, rfl, ?_, ⟨_, rfl⟩, hW, hsame.mono (by decide) (by decide)⟩
  · show Steps p.tables e below (s₁.setTop (mkF m 0 #[.val (.ref a1)] [])) _
    refine XS.aloadN X0.here hx rfl (hb hby d21_0) rfl rfl ?_
    refine st1 _ ?_
    refine X1.arraylength hx (by rw [e1]; exact Ar2.1) (State.isArrayOf_alike hZ.alike Ar2.2.1) (g := (mkF m 4 #[.val (.ref a1)] [(.ref b)])) rfl rfl (hb hby d21_4) _ ?_
    rw [len_of S2 Nn2]
    show Steps _ _ _ (T1.setTop (mkF m 5 #[.val (.ref a1)] [(.int z)])) _
    refine XS.aloadN X1.here hx rfl (hb hby d21_5) rfl rfl ?_
    refine st3.trans ?_
    refine XS.ishr X3.here hx rfl (hb hby d21_9) rfl ?_
    show Steps _ _ _ (T3.setTop (mkF m 10 #[.val (.ref a1)] [(.int (z >>> ((0 : Int32) &&& 31)))])) _
    exact retI X3 hx Bd.returns (hb hby d21_10) hr
  · show Qown_length Z a1 z cs nb h0 n0 _ T3.heap _
    rw [e3]
    exact ⟨by rw [own_shr0], N3, rfl⟩
theorem d31_0 : decode c31 0 = .ok (.getstatic 18, 3) := by decide +kernel
theorem d31_3 : decode c31 3 = .ok (.ifCond .eq 14, 3) := by decide +kernel
theorem d31_6 : decode c31 6 = .ok (.aload_n 0, 1) := by decide +kernel
theorem d31_7 : decode c31 7 = .ok (.getfield 22, 3) := by decide +kernel
theorem d31_10 : decode c31 10 = .ok (.ifCond .ne 7, 3) := by decide +kernel
theorem d31_13 : decode c31 13 = .ok (.iconst 1, 1) := by decide +kernel
theorem d31_14 : decode c31 14 = .ok (.goto 4, 3) := by decide +kernel
theorem d31_18 : decode c31 18 = .ok (.ireturn, 1) := by decide +kernel
theorem pn_java_lang_AbstractStringBuilder : plainName "java/lang/AbstractStringBuilder" = true := by first | (simp [plainName, overriddenIn]; done) | decide +kernel
theorem ef_own_isL (m : MethodId) (x0 : Addr) : entryFrame m #[(.ref x0)] 1 = mkF m 0 #[.val (.ref x0)] [] := by first | (simp [entryFrame, mkF, argsToLocals, Value.category]; done) | rfl
def Qown_isL (Z : State) (a1 : Addr) (cs : Int32) (nb : Nat) (h0 : Heap) (n0 : Nat) (v : Option Value) (h : Heap) (L : List Loc) : Prop := v = some (.int (1 : Int32)) ∧ Fr n0 L ∧ h = h0
theorem own_isL (l : Launch) (Z : State) (a0 : Array Value) (hw : ∀ d ∈ tables_1, d.before a0 Z = true) (ws : List Jvm.Cond) (a1 : Addr) (cs : Int32) (nb : Nat) (h0 : Heap) (n0 : Nat) (Z0 : n0 ≤ h0.size) (F2 : Fld Z h0 a1 "java/lang/AbstractStringBuilder" "coder" "B" (.int (0 : Int32))) (SC : own_S Z h0 nb "java/lang/String" "COMPACT_STRINGS" "Z" (.int cs)) (hcs : ¬ (cs = (0 : Int32))) :
    MetFree l mn20 (head1 (Jvm.Cond.code mn20 jdk_68_method_68_code 1 (some .boolean) :: ws) (⟨0, 0, 0, 0⟩ : Room)) (fun a U => a = #[(.ref a1)] ∧ Z.Warmed39 U.vm ∧ U.heap = h0) (fun _ _ _ _ _ => True) (fun _ U o U' => ∃ v L, o = .returned v ∧ Qown_isL Z a1 cs nb h0 n0 v U'.heap L ∧ FrameEnd U o U' L (⟨0, 0, 0, 0⟩ : Room).cells (⟨0, 0, 0, 0⟩ : Room).slots) := by
  refine MetFree.of_bodySF (plainFor_of_name pn_java_lang_AbstractStringBuilder) hisR ?_
  intro p e s m args below meth c s₁ Bd hml0 hP hK
  obtain ⟨rfl, hZ, hh⟩ := hP
  have hx := Bd.exec
  have hby := Bd.bytes
  have hml : c.maxLocals = 1 := hml0
  have hown : s.vm.findClass "java/lang/AbstractStringBuilder" = some m.cls := findClass_of_methodNamed Bd.named
  have hnm := (name_of_methodNamed Bd.named Bd.method).1
  have X0 : Stand p l e (⟨0, 0, 0, 0⟩ : Room) s m #[(.ref a1)] below meth c s₁ [] 0 0 := Stand.of_body Bd
  have e0 : s₁.heap = h0 := by rw [← hh, Bd.state]; rfl
  have N0 := Fr.nil n0
  have pre0 : ∀ t, Steps p.tables e below (s₁.setTop (mkF m 0 #[.val (.ref a1)] [])) t → Steps p.tables e below (s₁.setTop (entryFrame m #[(.ref a1)] 1)) t := fun t k => castTop (ef_own_isL m (a1)) k
  obtain ⟨T1, X1, e1, st1⟩ := getS2 X0 hx hZ hown (host := "") (Or.inl (wJ hw 90 rfl)) Via.refl e0 SC.sta (g := (mkF m 0 #[.val (.ref a1)] [])) rfl (hb hby d31_0)
  obtain ⟨T2, X2, e2, st2⟩ := getF X1 hx hZ hown (host := "") (Or.inl (wJ hw 93 rfl)) Via.refl e1 F2 (g := (mkF m 7 #[.val (.ref a1)] [(.ref a1)])) rfl rfl (hb hby d31_7)
  obtain ⟨fs, hr, hrun, hended, hW, hsame⟩ := X2.leave (v := some (.int (1 : Int32))) (fun h => by rw [Bd.returns] at h; cases h)
  refine ⟨_, _, pre0 _ ?_, hrun, hended, _, _, rfl, ?_, ⟨_, rfl⟩, hW, hsame.mono (by decide) (by decide)⟩
  · show Steps p.tables e below (s₁.setTop (mkF m 0 #[.val (.ref a1)] [])) _
    refine st1 _ ?_
    refine XS.ifNo X1.here hx rfl (hb hby d31_3) rfl ((if0 _ _).trans (feq (hcs : ¬ (cs = (0 : Int32)))).1) ?_
    refine XS.aloadN X1.here hx rfl (hb hby d31_6) rfl rfl ?_
    refine st2 _ ?_
    show Steps _ _ _ (T2.setTop (mkF m 10 #[.val (.ref a1)] [(.int (0 : Int32))])) _
    refine XS.ifNo X2.here hx rfl (hb hby d31_10) rfl ((if0 _ _).trans (teq (rfl : (0 : Int32) = (0 : Int32))).2) ?_
    refine XS.iconst X2.here hx rfl (hb hby d31_13) ?_
    refine XS.goto X2.here hx rfl (pc0 := 14) (pc' := 18) rfl (hb hby d31_14) (by decide) (by decide) ?_
    show Steps _ _ _ (T2.setTop (mkF m 18 #[.val (.ref a1)] [(.int (1 : Int32))])) _
    exact retN X2 hx (t := .boolean) Bd.returns (by simp) (hb hby d31_18) hr
  · show Qown_isL Z a1 cs nb h0 n0 _ T2.heap _
    rw [e2]
    exact ⟨rfl, N0, rfl⟩
theorem d25_0 : decode c25 0 = .ok (.getstatic 18, 3) := by decide +kernel
theorem d25_3 : decode c25 3 = .ok (.ifCond .eq 18, 3) := by decide +kernel
theorem d25_6 : decode c25 6 = .ok (.aload_n 0, 1) := by decide +kernel
theorem d25_7 : decode c25 7 = .ok (.getfield 22, 3) := by decide +kernel
theorem d25_10 : decode c25 10 = .ok (.aload_n 1, 1) := by decide +kernel
theorem d25_11 : decode c25 11 = .ok (.invokevirtual 40, 3) := by decide +kernel
theorem d25_14 : decode c25 14 = .ok (.if_icmp .eq 7, 3) := by decide +kernel
theorem d25_21 : decode c25 21 = .ok (.return_, 1) := by decide +kernel
theorem ef_own_infl (m : MethodId) (x0 : Addr) (x1 : Addr) : entryFrame m #[(.ref x0), (.ref x1)] 2 = mkF m 0 #[.val (.ref x0), .val (.ref x1)] [] := by first | (simp [entryFrame, mkF, argsToLocals, Value.category]; done) | rfl
def Qown_infl (Z : State) (a1 : Addr) (a2 : Addr) (cs : Int32) (nb : Nat) (h0 : Heap) (n0 : Nat) (v : Option Value) (h : Heap) (L : List Loc) : Prop := v = none ∧ Fr n0 L ∧ h = h0
theorem own_infl (l : Launch) (Z : State) (a0 : Array Value) (hw : ∀ d ∈ tables_1, d.before a0 Z = true) (ws : List Jvm.Cond) (a1 : Addr) (a2 : Addr) (cs : Int32) (nb : Nat) (h0 : Heap) (n0 : Nat) (Z0 : n0 ≤ h0.size) (F2 : Fld Z h0 a1 "java/lang/AbstractStringBuilder" "coder" "B" (.int (0 : Int32))) (G2 : Fld Z h0 a2 "java/lang/String" "coder" "B" (.int (0 : Int32))) (E2 : Exa Z h0 a2 "java/lang/String") (SC : own_S Z h0 nb "java/lang/String" "COMPACT_STRINGS" "Z" (.int cs)) (hcs : ¬ (cs = (0 : Int32))) :
    MetFree l mn19 (head1 (Jvm.Cond.code mn19 jdk_68_method_71_code 2 none :: ws) (⟨1, 0, 0, 13⟩ : Room)) (fun a U => a = #[(.ref a1), (.ref a2)] ∧ Z.Warmed39 U.vm ∧ U.heap = h0) (fun _ _ _ _ _ => True) (fun _ U o U' => ∃ v L, o = .returned v ∧ Qown_infl Z a1 a2 cs nb h0 n0 v U'.heap L ∧ FrameEnd U o U' L (⟨1, 0, 0, 13⟩ : Room).cells (⟨1, 0, 0, 13⟩ : Room).slots) := by
  refine MetFree.of_bodySF (plainFor_of_name pn_java_lang_AbstractStringBuilder) hisR ?_
  intro p e s m args below meth c s₁ Bd hml0 hP hK
  obtain ⟨rfl, hZ, hh⟩ := hP
  have hx := Bd.exec
  have hby := Bd.bytes
  have hml : c.maxLocals = 2 := hml0
  have hown : s.vm.findClass "java/lang/AbstractStringBuilder" = some m.cls := findClass_of_methodNamed Bd.named
  have hnm := (name_of_methodNamed Bd.named Bd.method).1
  have X0 : Stand p l e (⟨1, 0, 0, 13⟩ : Room) s m #[(.ref a1), (.ref a2)] below meth c s₁ [] 0 0 := Stand.of_body Bd
  have e0 : s₁.heap = h0 := by rw [← hh, Bd.state]; rfl
  have N0 := Fr.nil n0
  have pre0 : ∀ t, Steps p.tables e below (s₁.setTop (mkF m 0 #[.val (.ref a1), .val (.ref a2)] [])) t → Steps p.tables e below (s₁.setTop (entryFrame m #[(.ref a1), (.ref a2)] 2)) t := fun t k => castTop (ef_own_infl m (a1) (a2)) k
  obtain ⟨T1, X1, e1, st1⟩ := getS2 X0 hx hZ hown (host := "") (Or.inl (wJ hw 90 rfl)) Via.refl e0 SC.sta (g := (mkF m 0 #[.val (.ref a1), .val (.ref a2)] [])) rfl (hb hby d25_0)
  obtain ⟨T2, X2, e2, st2⟩ := getF X1 hx hZ hown (host := "") (Or.inl (wJ hw 93 rfl)) Via.refl e1 F2 (g := (mkF m 7 #[.val (.ref a1), .val (.ref a2)] [(.ref a1)])) rfl rfl (hb hby d25_7)
  obtain ⟨cq3, kq3, q3a, q3b, q3c⟩ := isOf hZ e2 E2
  obtain ⟨_, _, ⟨T3, L3, k3, n3⟩, -, X3, ⟨Lc3, hQ3, l3, y3, z3⟩, st3⟩ := X2.virtualBack hx (y := mn32) (z := mn32) hown (mvT hZ (wJ hw 183 rfl)) (mvT hZ (wJ hw 162 rfl)) (notFace_of_selects (args := #[]) (mvT hZ (wJ hw 164 rfl))) (mvT hZ (wJ hw 164 rfl)) (mvT hZ (wJ hw 163 rfl)) (by decide) (backOf (W := 1) (own_coder l Z a0 hw [] a2 cs nb h0 n0 Z0 G2 SC hcs) hZ (wJ hw 165 rfl) (wJ hw 2 rfl) (by decide) (by decide)) q3a q3c (g := (mkF m 11 #[.val (.ref a1), .val (.ref a2)] [(.ref a2), (.int (0 : Int32))])) rfl (by rw [hml]; rfl) (Steps.refl _) (argsL := []) (rest := [(.int (0 : Int32))]) (lenOf pd___B rfl) rfl (by show 2 * 0 + _ ≤ _; exact Nat.le_of_eq rfl) (hb hby d25_11) (fun _ _ => ⟨rfl, e2, (by decide : 0 + 0 ≤ _), (by decide : 0 + 0 ≤ _)⟩)
  dsimp only [Pt.U, Pt.locs, Pt.cells, Pt.slots] at X3 l3 y3 z3 st3 hQ3
  replace X3 := X3.more (Nat.le_of_eq (show k3 = 0 from y3)) (Nat.le_of_eq (show n3 = 0 from z3))
  obtain ⟨rfl, Nq3, e3⟩ := hQ3
  have N3 : Fr n0 L3 := by rw [l3]; exact Fr.app N0 Nq3
  obtain ⟨fs, hr, hrun, hended, hW, hsame⟩ := X3.leave (v := none) (fun _ => rfl)
  refine ⟨_, _, pre0 _ ?_, hrun, hended, _, _, rfl, ?_, ⟨_, rfl⟩, hW, hsame.mono (by decide) (by decide)⟩
  · show Steps p.tables e below (s₁.setTop (mkF m 0 #[.val (.ref a1), .val (.ref a2)] [])) _
    refine st1 _ ?_
    refine XS.ifNo X1.here hx rfl (hb hby d25_3) rfl ((if0 _ _).trans (feq (hcs : ¬ (cs = (0 : Int32)))).1) ?_
    refine XS.aloadN X1.here hx rfl (hb hby d25_6) rfl rfl ?_
    refine st2 _ ?_
    show Steps _ _ _ (T2.setTop (mkF m 10 #[.val (.ref a1), .val (.ref a2)] [(.int (0 : Int32))])) _
    refine XS.aloadN X2.here hx rfl (hb hby d25_10) rfl rfl ?_
    refine st3.trans ?_
    refine XS.icmpYes X3.here hx rfl (pc0 := 14) (pc' := 21) rfl (hb hby d25_14) rfl (teq (rfl : (0 : Int32) = (0 : Int32))).1 (by decide) (by decide) ?_
    show Steps _ _ _ (T3.setTop (mkF m 21 #[.val (.ref a1), .val (.ref a2)] [])) _
    exact X3.returnOut hx Bd.returns (hb hby d25_21) hr
  · show Qown_infl Z a1 a2 cs nb h0 n0 _ T3.heap _
    rw [e3]
    exact ⟨rfl, N3, rfl⟩
theorem d26_0 : decode c26 0 = .ok (.aload_n 0, 1) := by decide +kernel
theorem d26_1 : decode c26 1 = .ok (.invokevirtual 335, 3) := by decide +kernel
theorem d26_4 : decode c26 4 = .ok (.iload_n 3, 1) := by decide +kernel
theorem d26_5 : decode c26 5 = .ok (.if_icmp .ne 23, 3) := by decide +kernel
theorem d26_8 : decode c26 8 = .ok (.aload_n 0, 1) := by decide +kernel
theorem d26_9 : decode c26 9 = .ok (.getfield 9, 3) := by decide +kernel
theorem d26_12 : decode c26 12 = .ok (.iconst 0, 1) := by decide +kernel
theorem d26_13 : decode c26 13 = .ok (.aload_n 1, 1) := by decide +kernel
theorem d26_14 : decode c26 14 = .ok (.iload_n 2, 1) := by decide +kernel
theorem d26_15 : decode c26 15 = .ok (.iload_n 3, 1) := by decide +kernel
theorem d26_16 : decode c26 16 = .ok (.ishl, 1) := by decide +kernel
theorem d26_17 : decode c26 17 = .ok (.aload_n 0, 1) := by decide +kernel
theorem d26_18 : decode c26 18 = .ok (.getfield 9, 3) := by decide +kernel
theorem d26_21 : decode c26 21 = .ok (.arraylength, 1) := by decide +kernel
theorem d26_22 : decode c26 22 = .ok (.invokestatic 212, 3) := by decide +kernel
theorem d26_25 : decode c26 25 = .ok (.goto 18, 3) := by decide +kernel
theorem d26_43 : decode c26 43 = .ok (.return_, 1) := by decide +kernel
theorem ef_own_getB (m : MethodId) (x0 : Addr) (x1 : Addr) (x2 : Int32) (x3 : Int32) : entryFrame m #[(.ref x0), (.ref x1), (.int x2), (.int x3)] 4 = mkF m 0 #[.val (.ref x0), .val (.ref x1), .val (.int x2), .val (.int x3)] [] := by first | (simp [entryFrame, mkF, argsToLocals, Value.category]; done) | rfl
def Qown_getB (Z : State) (a1 : Addr) (a2 : Addr) (pp : Int32) (z : Int32) (cap : Int32) (k2 : ClassId) (vd : List Value) (cs : Int32) (nb : Nat) (h0 : Heap) (n0 : Nat) (v : Option Value) (h : Heap) (L : List Loc) : Prop := v = none ∧ Fr n0 L ∧ Keep h0 h [a2] ∧ ∃ vd2 : List Value, vd2.length = cap.toNatClampNeg ∧ Arv Z h a2 k2 .byte cap vd2 (.int (0 : Int32))
theorem own_getB (l : Launch) (Z : State) (a0 : Array Value) (hw : ∀ d ∈ tables_1, d.before a0 Z = true) (ws : List Jvm.Cond) (a1 : Addr) (a2 : Addr) (pp : Int32) (z : Int32) (cap : Int32) (k2 : ClassId) (vd : List Value) (cs : Int32) (nb : Nat) (h0 : Heap) (n0 : Nat) (Z0 : n0 ≤ h0.size) (S1 : own_str Z h0 a1 z) (V2 : Arv Z h0 a2 k2 .byte cap vd (.int (0 : Int32))) (hvd : vd.length = cap.toNatClampNeg) (g_a2 : n0 ≤ a2) (hp : ¬ pp < 0) (hpz : pp.toNatClampNeg + z.toNatClampNeg ≤ cap.toNatClampNeg) (SC : own_S Z h0 nb "java/lang/String" "COMPACT_STRINGS" "Z" (.int cs)) (hcs : ¬ (cs = (0 : Int32))) :
    MetFree l mn34 (head1 (Jvm.Cond.code mn34 jdk_42_method_147_code 4 none :: ws) (⟨1, 0, 0, 18⟩ : Room)) (fun a U => a = #[(.ref a1), (.ref a2), (.int pp), (.int (0 : Int32))] ∧ Z.Warmed39 U.vm ∧ U.heap = h0) (fun _ _ _ _ _ => True) (fun _ U o U' => ∃ v L, o = .returned v ∧ Qown_getB Z a1 a2 pp z cap k2 vd cs nb h0 n0 v U'.heap L ∧ FrameEnd U o U' L (⟨1, 0, 0, 18⟩ : Room).cells (⟨1, 0, 0, 18⟩ : Room).slots) := by
  refine MetFree.of_bodySF (plainFor_of_name pn_java_lang_String) hisR ?_
  intro p e s m args below meth c s₁ Bd hml0 hP hK
  obtain ⟨rfl, hZ, hh⟩ := hP
  have hx := Bd.exec
  have hby := Bd.bytes
  have hml : c.maxLocals = 4 := hml0
  have hown : s.vm.findClass "java/lang/String" = some m.cls := findClass_of_methodNamed Bd.named
  have hnm := (name_of_methodNamed Bd.named Bd.method).1
  have X0 : Stand p l e (⟨1, 0, 0, 18⟩ : Room) s m #[(.ref a1), (.ref a2), (.int pp), (.int (0 : Int32))] below meth c s₁ [] 0 0 := Stand.of_body Bd
  have e0 : s₁.heap = h0 := by rw [← hh, Bd.state]; rfl
  have N0 := Fr.nil n0
  have pre0 : ∀ t, Steps p.tables e below (s₁.setTop (mkF m 0 #[.val (.ref a1), .val (.ref a2), .val (.int pp), .val (.int (0 : Int32))] [])) t → Steps p.tables e below (s₁.setTop (entryFrame m #[(.ref a1), (.ref a2), (.int pp), (.int (0 : Int32))] 4)) t := fun t k => castTop (ef_own_getB m (a1) (a2) (pp) ((0 : Int32))) k
  obtain ⟨b, k, vs, E1, F1, F2, V1, hl⟩ := S1
  obtain ⟨_, _, _, _, hz0, _⟩ := id V1
  obtain ⟨cq1, kq1, q1a, q1b, q1c⟩ := isOf hZ e0 E1
  obtain ⟨_, _, ⟨T1, L1, k1, n1⟩, -, X1, ⟨Lc1, hQ1, l1, y1, z1⟩, st1⟩ := X0.virtualBack hx (y := mn32) (z := mn32) hown (mvT hZ (wJ hw 161 rfl)) (mvT hZ (wJ hw 162 rfl)) (notFace_of_selects (args := #[]) (mvT hZ (wJ hw 164 rfl))) (mvT hZ (wJ hw 164 rfl)) (mvT hZ (wJ hw 163 rfl)) (by decide) (backOf (W := 0) (own_coder l Z a0 hw [] a1 cs nb h0 n0 Z0 F2 SC hcs) hZ (wJ hw 165 rfl) (wJ hw 2 rfl) (by decide) (by decide)) q1a q1c (g := (mkF m 1 #[.val (.ref a1), .val (.ref a2), .val (.int pp), .val (.int (0 : Int32))] [(.ref a1)])) rfl (by rw [hml]; rfl) (Steps.refl _) (argsL := []) (rest := []) (lenOf pd___B rfl) rfl (by show 2 * 0 + _ ≤ _; exact Nat.le_of_eq rfl) (hb hby d26_1) (fun _ _ => ⟨rfl, e0, (by decide : 0 + 0 ≤ _), (by decide : 0 + 0 ≤ _)⟩)
  dsimp only [Pt.U, Pt.locs, Pt.cells, Pt.slots] at X1 l1 y1 z1 st1 hQ1
  replace X1 := X1.more (Nat.le_of_eq (show k1 = 0 from y1)) (Nat.le_of_eq (show n1 = 0 from z1))
  obtain ⟨rfl, Nq1, e1⟩ := hQ1
  have N1 : Fr n0 L1 := by rw [l1]; exact Fr.app N0 Nq1
  obtain ⟨T2, X2, e2, st2⟩ := getF X1 hx hZ hown (host := "") (Or.inl (wJ hw 22 rfl)) Via.refl e1 F1 (g := (mkF m 9 #[.val (.ref a1), .val (.ref a2), .val (.int pp), .val (.int (0 : Int32))] [(.ref a1)])) rfl rfl (hb hby d26_9)
  obtain ⟨T3, X3, e3, st3⟩ := getF X2 hx hZ hown (host := "") (Or.inl (wJ hw 22 rfl)) Via.refl e2 F1 (g := (mkF m 18 #[.val (.ref a1), .val (.ref a2), .val (.int pp), .val (.int (0 : Int32))] [(.ref a1), (.int pp), (.ref a2), (.int (0 : Int32)), (.ref b)])) rfl rfl (hb hby d26_18)
  obtain ⟨cl4, Ar4, qc4, S4, Nn4, H4, G4⟩ := id V1
  obtain ⟨T5, h5, L5, X5, e5, N5, Kq5, V5, st5⟩ := cpA X3 hx hZ hown (wJ hw 189 rfl) (wJ hw 192 rfl) (wJ hw 190 rfl) (wJ hw 191 rfl) e3 V1 V2 (Or.inl ⟨rfl, rfl⟩) (by decide) hp hz0 (by show (0 : Int32).toNatClampNeg + _ ≤ _; simp) hpz rfl (by rw [hvd]; exact hpz) N1 g_a2 (g := (mkF m 22 #[.val (.ref a1), .val (.ref a2), .val (.int pp), .val (.int (0 : Int32))] [(.int z), (.int pp), (.ref a2), (.int (0 : Int32)), (.ref b)])) rfl (by rw [hml]; rfl) rfl (hb hby d26_22) (by decide) (W := 0) (by show 2 * 0 + _ ≤ _; exact Nat.le_of_eq rfl) (by decide)
  obtain ⟨vs5, hl5, Vc5⟩ : ∃ w : List Value, w.length = (vd : List Value).length ∧ Arv Z h5 a2 k2 .byte cap w (.int (0 : Int32)) := ⟨_, own_len _ _ rfl (by rw [hvd]; exact hpz), V5⟩
  have Z5 : n0 ≤ h5.size := Nat.le_trans Z0 Kq5.1
  have K5 : Keep h0 h5 [a2] := (Keep.refl h0 [a2]).trans Kq5 (allS (Or.inl (wI 0 rfl)) all0)
  obtain ⟨fs, hr, hrun, hended, hW, hsame⟩ := X5.leave (v := none) (fun _ => rfl)
  refine ⟨_, _, pre0 _ ?_, hrun, hended, _, _, rfl, ?_, ⟨_, rfl⟩, hW, hsame.mono (by decide) (by decide)⟩
  · show Steps p.tables e below (s₁.setTop (mkF m 0 #[.val (.ref a1), .val (.ref a2), .val (.int pp), .val (.int (0 : Int32))] [])) _
    refine XS.aloadN X0.here hx rfl (hb hby d26_0) rfl rfl ?_
    refine st1.trans ?_
    refine XS.iloadN X1.here hx rfl (hb hby d26_4) rfl ?_
    refine XS.icmpNo X1.here hx rfl (hb hby d26_5) rfl (teq (rfl : (0 : Int32) = (0 : Int32))).2 ?_
    show Steps _ _ _ (T1.setTop (mkF m 8 #[.val (.ref a1), .val (.ref a2), .val (.int pp), .val (.int (0 : Int32))] [])) _
    refine XS.aloadN X1.here hx rfl (hb hby d26_8) rfl rfl ?_
    refine st2 _ ?_
    refine XS.iconst X2.here hx rfl (hb hby d26_12) ?_
    refine XS.aloadN X2.here hx rfl (hb hby d26_13) rfl rfl ?_
    show Steps _ _ _ (T2.setTop (mkF m 14 #[.val (.ref a1), .val (.ref a2), .val (.int pp), .val (.int (0 : Int32))] [(.ref a2), (.int (0 : Int32)), (.ref b)])) _
    refine XS.iloadN X2.here hx rfl (hb hby d26_14) rfl ?_
    refine XS.iloadN X2.here hx rfl (hb hby d26_15) rfl ?_
    refine XS.ishl X2.here hx rfl (hb hby d26_16) rfl ?_
    show Steps _ _ _ (T2.setTop (mkF m 17 #[.val (.ref a1), .val (.ref a2), .val (.int pp), .val (.int (0 : Int32))] [(.int (pp <<< ((0 : Int32) &&& 31))), (.ref a2), (.int (0 : Int32)), (.ref b)])) _
    rw [own_shl0]
    show Steps _ _ _ (T2.setTop (mkF m 17 #[.val (.ref a1), .val (.ref a2), .val (.int pp), .val (.int (0 : Int32))] [(.int pp), (.ref a2), (.int (0 : Int32)), (.ref b)])) _
    refine XS.aloadN X2.here hx rfl (hb hby d26_17) rfl rfl ?_
    refine st3 _ ?_
    refine X3.arraylength hx (by rw [e3]; exact Ar4.1) (State.isArrayOf_alike hZ.alike Ar4.2.1) (g := (mkF m 21 #[.val (.ref a1), .val (.ref a2), .val (.int pp), .val (.int (0 : Int32))] [(.ref b), (.int pp), (.ref a2), (.int (0 : Int32)), (.ref b)])) rfl rfl (hb hby d26_21) _ ?_
    rw [len_of S4 Nn4]
    show Steps _ _ _ (T3.setTop (mkF m 22 #[.val (.ref a1), .val (.ref a2), .val (.int pp), .val (.int (0 : Int32))] [(.int z), (.int pp), (.ref a2), (.int (0 : Int32)), (.ref b)])) _
    refine st5 _ ?_
    refine XS.goto X5.here hx rfl (pc0 := 25) (pc' := 43) rfl (hb hby d26_25) (by decide) (by decide) ?_
    show Steps _ _ _ (T5.setTop (mkF m 43 #[.val (.ref a1), .val (.ref a2), .val (.int pp), .val (.int (0 : Int32))] [])) _
    exact X5.returnOut hx Bd.returns (hb hby d26_43) hr
  · show Qown_getB Z a1 a2 pp z cap k2 vd cs nb h0 n0 _ T5.heap _
    rw [e5]
    exact ⟨rfl, N5, K5, vs5, by rw [hl5]; exact hvd, Vc5⟩
theorem d24_0 : decode c24 0 = .ok (.aload_n 0, 1) := by decide +kernel
theorem d24_1 : decode c24 1 = .ok (.aload_n 2, 1) := by decide +kernel
theorem d24_2 : decode c24 2 = .ok (.invokevirtual 397, 3) := by decide +kernel
theorem pd__Ljava_lang_String__V : parseMethodDescriptor "(Ljava/lang/String;)V" = some ⟨[(.object "java/lang/String")], none⟩ := by decide +kernel
theorem d24_5 : decode c24 5 = .ok (.aload_n 2, 1) := by decide +kernel
theorem d24_6 : decode c24 6 = .ok (.aload_n 0, 1) := by decide +kernel
theorem d24_7 : decode c24 7 = .ok (.getfield 15, 3) := by decide +kernel
theorem d24_10 : decode c24 10 = .ok (.iload_n 1, 1) := by decide +kernel
theorem d24_11 : decode c24 11 = .ok (.aload_n 0, 1) := by decide +kernel
theorem d24_12 : decode c24 12 = .ok (.getfield 22, 3) := by decide +kernel
theorem d24_15 : decode c24 15 = .ok (.invokevirtual 399, 3) := by decide +kernel
theorem pd___BIB_V : parseMethodDescriptor "([BIB)V" = some ⟨[(.array .byte), .int, .byte], none⟩ := by decide +kernel
theorem d24_18 : decode c24 18 = .ok (.return_, 1) := by decide +kernel
theorem ef_own_putS (m : MethodId) (x0 : Addr) (x1 : Int32) (x2 : Addr) : entryFrame m #[(.ref x0), (.int x1), (.ref x2)] 3 = mkF m 0 #[.val (.ref x0), .val (.int x1), .val (.ref x2)] [] := by first | (simp [entryFrame, mkF, argsToLocals, Value.category]; done) | rfl
def Qown_putS (Z : State) (a1 : Addr) (pp : Int32) (a2 : Addr) (z : Int32) (cap : Int32) (b : Addr) (k2 : ClassId) (vd : List Value) (cs : Int32) (nb : Nat) (h0 : Heap) (n0 : Nat) (v : Option Value) (h : Heap) (L : List Loc) : Prop := v = none ∧ Fr n0 L ∧ Keep h0 h [b] ∧ ∃ vd2 : List Value, vd2.length = cap.toNatClampNeg ∧ Arv Z h b k2 .byte cap vd2 (.int (0 : Int32))
theorem own_putS (l : Launch) (Z : State) (a0 : Array Value) (hw : ∀ d ∈ tables_1, d.before a0 Z = true) (ws : List Jvm.Cond) (a1 : Addr) (pp : Int32) (a2 : Addr) (z : Int32) (cap : Int32) (b : Addr) (k2 : ClassId) (vd : List Value) (cs : Int32) (nb : Nat) (h0 : Heap) (n0 : Nat) (Z0 : n0 ≤ h0.size) (F1 : Fld Z h0 a1 "java/lang/AbstractStringBuilder" "value" "[B" (.ref b)) (F2 : Fld Z h0 a1 "java/lang/AbstractStringBuilder" "coder" "B" (.int (0 : Int32))) (E1 : Exa Z h0 a1 "java/lang/StringBuilder") (S1 : own_str Z h0 a2 z) (V2 : Arv Z h0 b k2 .byte cap vd (.int (0 : Int32))) (hvd : vd.length = cap.toNatClampNeg) (g_b : n0 ≤ b) (hp : ¬ pp < 0) (hpz : pp.toNatClampNeg + z.toNatClampNeg ≤ cap.toNatClampNeg) (SC : own_S Z h0 nb "java/lang/String" "COMPACT_STRINGS" "Z" (.int cs)) (hcs : ¬ (cs = (0 : Int32))) :
    MetFree l mn23 (head1 (Jvm.Cond.code mn23 jdk_68_method_73_code 3 none :: ws) (⟨2, 0, 0, 33⟩ : Room)) (fun a U => a = #[(.ref a1), (.int pp), (.ref a2)] ∧ Z.Warmed39 U.vm ∧ U.heap = h0) (fun _ _ _ _ _ => True) (fun _ U o U' => ∃ v L, o = .returned v ∧ Qown_putS Z a1 pp a2 z cap b k2 vd cs nb h0 n0 v U'.heap L ∧ FrameEnd U o U' L (⟨2, 0, 0, 33⟩ : Room).cells (⟨2, 0, 0, 33⟩ : Room).slots) := by
  refine MetFree.of_bodySF (plainFor_of_name pn_java_lang_AbstractStringBuilder) hisR ?_
  intro p e s m args below meth c s₁ Bd hml0 hP hK
  obtain ⟨rfl, hZ, hh⟩ := hP
  have hx := Bd.exec
  have hby := Bd.bytes
  have hml : c.maxLocals = 3 := hml0
  have hown : s.vm.findClass "java/lang/AbstractStringBuilder" = some m.cls := findClass_of_methodNamed Bd.named
  have hnm := (name_of_methodNamed Bd.named Bd.method).1
  have X0 : Stand p l e (⟨2, 0, 0, 33⟩ : Room) s m #[(.ref a1), (.int pp), (.ref a2)] below meth c s₁ [] 0 0 := Stand.of_body Bd
  have e0 : s₁.heap = h0 := by rw [← hh, Bd.state]; rfl
  have N0 := Fr.nil n0
  have pre0 : ∀ t, Steps p.tables e below (s₁.setTop (mkF m 0 #[.val (.ref a1), .val (.int pp), .val (.ref a2)] [])) t → Steps p.tables e below (s₁.setTop (entryFrame m #[(.ref a1), (.int pp), (.ref a2)] 3)) t := fun t k => castTop (ef_own_putS m (a1) (pp) (a2)) k
  obtain ⟨bs, ks, vs, Es, G1, G2, V1, hl⟩ := id S1
  obtain ⟨cq1, kq1, q1a, q1b, q1c⟩ := isOf hZ e0 E1
  obtain ⟨_, _, ⟨T1, L1, k1, n1⟩, -, X1, ⟨Lc1, hQ1, l1, y1, z1⟩, st1⟩ := X0.virtualBack hx (y := mn19) (z := mn19) hown (mvT hZ (wJ hw 178 rfl)) (mvT hZ (own_decl (wJ hw 179 rfl) (wJ hw 182 rfl))) (notFace_of_selects (args := #[]) (mvT hZ (wJ hw 181 rfl))) (mvT hZ (wJ hw 181 rfl)) (mvT hZ (wJ hw 179 rfl)) (by decide) (backOf (W := 0) (own_infl l Z a0 hw [] a1 a2 cs nb h0 n0 Z0 F2 G2 Es SC hcs) hZ (wJ hw 182 rfl) (wJ hw 87 rfl) (by decide) (by decide)) q1a q1c (g := (mkF m 2 #[.val (.ref a1), .val (.int pp), .val (.ref a2)] [(.ref a2), (.ref a1)])) rfl (by rw [hml]; rfl) (Steps.refl _) (argsL := [(.ref a2)]) (rest := []) (lenOf pd__Ljava_lang_String__V rfl) rfl (by show 2 * 0 + _ ≤ _; exact Nat.le_of_eq rfl) (hb hby d24_2) (fun _ _ => ⟨rfl, e0, (by decide : 0 + 0 ≤ _), (by decide : 0 + 0 ≤ _)⟩)
  dsimp only [Pt.U, Pt.locs, Pt.cells, Pt.slots] at X1 l1 y1 z1 st1 hQ1
  replace X1 := X1.more (Nat.le_of_eq (show k1 = 0 from y1)) (Nat.le_of_eq (show n1 = 0 from z1))
  obtain ⟨rfl, Nq1, e1⟩ := hQ1
  have N1 : Fr n0 L1 := by rw [l1]; exact Fr.app N0 Nq1
  obtain ⟨T2, X2, e2, st2⟩ := getF X1 hx hZ hown (host := "") (Or.inl (wJ hw 91 rfl)) Via.refl e1 F1 (g := (mkF m 7 #[.val (.ref a1), .val (.int pp), .val (.ref a2)] [(.ref a1), (.ref a2)])) rfl rfl (hb hby d24_7)
  obtain ⟨T3, X3, e3, st3⟩ := getF X2 hx hZ hown (host := "") (Or.inl (wJ hw 93 rfl)) Via.refl e2 F2 (g := (mkF m 12 #[.val (.ref a1), .val (.int pp), .val (.ref a2)] [(.ref a1), (.int pp), (.ref b), (.ref a2)])) rfl rfl (hb hby d24_12)
  obtain ⟨cq4, kq4, q4a, q4b, q4c⟩ := isOf hZ e3 Es
  obtain ⟨_, _, ⟨T4, L4, k4, n4⟩, -, X4, ⟨Lc4, hQ4, l4, y4, z4⟩, st4⟩ := X3.virtualBack hx (y := mn34) (z := mn34) hown (mvT hZ (wJ hw 184 rfl)) (mvT hZ (wJ hw 185 rfl)) (notFace_of_selects (args := #[]) (mvT hZ (wJ hw 187 rfl))) (mvT hZ (wJ hw 187 rfl)) (mvT hZ (wJ hw 186 rfl)) (by decide) (backOf (W := 0) (own_getB l Z a0 hw [] a2 b pp z cap k2 vd cs nb h0 n0 Z0 S1 V2 hvd g_b hp hpz SC hcs) hZ (wJ hw 188 rfl) (wJ hw 2 rfl) (by decide) (by decide)) q4a q4c (g := (mkF m 15 #[.val (.ref a1), .val (.int pp), .val (.ref a2)] [(.int (0 : Int32)), (.int pp), (.ref b), (.ref a2)])) rfl (by rw [hml]; rfl) (Steps.refl _) (argsL := [(.ref b), (.int pp), (.int (0 : Int32))]) (rest := []) (lenOf pd___BIB_V rfl) rfl (by show 2 * 0 + _ ≤ _; exact Nat.le_of_eq rfl) (hb hby d24_15) (fun _ _ => ⟨rfl, e3, (by decide : 0 + 0 ≤ _), (by decide : 0 + 0 ≤ _)⟩)
  dsimp only [Pt.U, Pt.locs, Pt.cells, Pt.slots] at X4 l4 y4 z4 st4 hQ4
  replace X4 := X4.more (Nat.le_of_eq (show k4 = 0 from y4)) (Nat.le_of_eq (show n4 = 0 from z4))
  obtain ⟨rfl, Nq4, Kq4, vd2, hv2, V3⟩ := hQ4
  have Z4 : n0 ≤ T4.heap.size := Nat.le_trans Z0 Kq4.1
  have K4 : Keep h0 T4.heap [b] := (Keep.refl h0 [b]).trans Kq4 (allS (Or.inl (wI 0 rfl)) all0)
  have N4 : Fr n0 L4 := by rw [l4]; exact Fr.app N1 Nq4
  obtain ⟨fs, hr, hrun, hended, hW, hsame⟩ := X4.leave (v := none) (fun _ => rfl)
  refine ⟨_, _, pre0 _ ?_, hrun, hended, _, _, rfl, ?_, ⟨_, rfl⟩, hW, hsame.mono (by decide) (by decide)⟩
  · show Steps p.tables e below (s₁.setTop (mkF m 0 #[.val (.ref a1), .val (.int pp), .val (.ref a2)] [])) _
    refine XS.aloadN X0.here hx rfl (hb hby d24_0) rfl rfl ?_
    refine XS.aloadN X0.here hx rfl (hb hby d24_1) rfl rfl ?_
    refine st1.trans ?_
    refine XS.aloadN X1.here hx rfl (hb hby d24_5) rfl rfl ?_
    show Steps _ _ _ (T1.setTop (mkF m 6 #[.val (.ref a1), .val (.int pp), .val (.ref a2)] [(.ref a2)])) _
    refine XS.aloadN X1.here hx rfl (hb hby d24_6) rfl rfl ?_
    refine st2 _ ?_
    refine XS.iloadN X2.here hx rfl (hb hby d24_10) rfl ?_
    refine XS.aloadN X2.here hx rfl (hb hby d24_11) rfl rfl ?_
    show Steps _ _ _ (T2.setTop (mkF m 12 #[.val (.ref a1), .val (.int pp), .val (.ref a2)] [(.ref a1), (.int pp), (.ref b), (.ref a2)])) _
    refine st3 _ ?_
    refine st4.trans ?_
    show Steps _ _ _ (T4.setTop (mkF m 18 #[.val (.ref a1), .val (.int pp), .val (.ref a2)] [])) _
    exact X4.returnOut hx Bd.returns (hb hby d24_18) hr
  · show Qown_putS Z a1 pp a2 z cap b k2 vd cs nb h0 n0 _ T4.heap _
    exact ⟨rfl, N4, K4, vd2, hv2, V3⟩
def own_max (a b : Int32) : Int32 := if a < b then b else a
def own_nl (a g p : Int32) : Int32 := a + own_max g p
def own_nc (cap mn : Int32) : Int32 := own_nl cap (mn - cap) (cap + (2 : Int32))
/-- what a growth from cap to at least mn asks of the numbers -/
def own_gr (cap mn : Int32) : Prop := (0 : Int32) < own_nc cap mn ∧ ¬ ((2147483639 : Int32) < own_nc cap mn) ∧ ¬ (own_nc cap mn = (2147483647 : Int32)) ∧ ¬ (own_nc cap mn = cap) ∧ ¬ (own_nc cap mn < cap) ∧ ¬ (own_nc cap mn < 0) ∧ (own_nc cap mn).toNatClampNeg ≤ 128 ∧ (0 : Int32) < (mn - cap) ∧ cap.toNatClampNeg ≤ (own_nc cap mn).toNatClampNeg
theorem d35_0 : decode c35 0 = .ok (.iload_n 0, 1) := by decide +kernel
theorem d35_1 : decode c35 1 = .ok (.iload_n 1, 1) := by decide +kernel
theorem d35_2 : decode c35 2 = .ok (.if_icmp .lt 7, 3) := by decide +kernel
theorem d35_9 : decode c35 9 = .ok (.iload_n 1, 1) := by decide +kernel
theorem d35_10 : decode c35 10 = .ok (.ireturn, 1) := by decide +kernel
theorem d35_5 : decode c35 5 = .ok (.iload_n 0, 1) := by decide +kernel
theorem d35_6 : decode c35 6 = .ok (.goto 4, 3) := by decide +kernel
theorem ef_own_mx (m : MethodId) (x0 : Int32) (x1 : Int32) : entryFrame m #[(.int x0), (.int x1)] 2 = mkF m 0 #[.val (.int x0), .val (.int x1)] [] := by first | (simp [entryFrame, mkF, argsToLocals, Value.category]; done) | rfl
def Qown_mx (Z : State) (p1 : Int32) (p2 : Int32) (h0 : Heap) (n0 : Nat) (v : Option Value) (h : Heap) (L : List Loc) : Prop := v = some (.int (own_max p1 p2)) ∧ Fr n0 L ∧ h = h0
theorem own_mx (l : Launch) (Z : State) (a0 : Array Value) (hw : ∀ d ∈ tables_1, d.before a0 Z = true) (ws : List Jvm.Cond) (p1 : Int32) (p2 : Int32) (h0 : Heap) (n0 : Nat) (Z0 : n0 ≤ h0.size) :
    MetFree l mn26 (head1 (Jvm.Cond.code mn26 jdk_29_method_65_code 2 (some .int) :: ws) (⟨0, 0, 0, 0⟩ : Room)) (fun a U => a = #[(.int p1), (.int p2)] ∧ Z.Warmed39 U.vm ∧ U.heap = h0) (fun _ _ _ _ _ => True) (fun _ U o U' => ∃ v L, o = .returned v ∧ Qown_mx Z p1 p2 h0 n0 v U'.heap L ∧ FrameEnd U o U' L (⟨0, 0, 0, 0⟩ : Room).cells (⟨0, 0, 0, 0⟩ : Room).slots) := by
  refine MetFree.of_bodySF (Jvm.Free.JP.mathPlain rfl (by decide +kernel)) hisR ?_
  intro p e s m args below meth c s₁ Bd hml0 hP hK
  obtain ⟨rfl, hZ, hh⟩ := hP
  have hx := Bd.exec
  have hby := Bd.bytes
  have hml : c.maxLocals = 2 := hml0
  have hown : s.vm.findClass "java/lang/Math" = some m.cls := findClass_of_methodNamed Bd.named
  have hnm := (name_of_methodNamed Bd.named Bd.method).1
  have X0 : Stand p l e (⟨0, 0, 0, 0⟩ : Room) s m #[(.int p1), (.int p2)] below meth c s₁ [] 0 0 := Stand.of_body Bd
  have e0 : s₁.heap = h0 := by rw [← hh, Bd.state]; rfl
  have N0 := Fr.nil n0
  have pre0 : ∀ t, Steps p.tables e below (s₁.setTop (mkF m 0 #[.val (.int p1), .val (.int p2)] [])) t → Steps p.tables e below (s₁.setTop (entryFrame m #[(.int p1), (.int p2)] 2)) t := fun t k => castTop (ef_own_mx m (p1) (p2)) k
  by_cases hc : p1 < p2
  · obtain ⟨fs, hr, hrun, hended, hW, hsame⟩ := X0.leave (v := some (.int p2)) (fun h => by rw [Bd.returns] at h; cases h)
    refine ⟨_, _, pre0 _ ?_, hrun, hended, _, _, rfl, ?_, ⟨_, rfl⟩, hW, hsame.mono (by decide) (by decide)⟩
    · show Steps p.tables e below (s₁.setTop (mkF m 0 #[.val (.int p1), .val (.int p2)] [])) _
      refine XS.iloadN X0.here hx rfl (hb hby d35_0) rfl ?_
      refine XS.iloadN X0.here hx rfl (hb hby d35_1) rfl ?_
      refine XS.icmpYes X0.here hx rfl (pc0 := 2) (pc' := 9) rfl (hb hby d35_2) rfl (tlt (hc : p1 < p2)).1 (by decide) (by decide) ?_
      refine XS.iloadN X0.here hx rfl (hb hby d35_9) rfl ?_
      show Steps _ _ _ (s₁.setTop (mkF m 10 #[.val (.int p1), .val (.int p2)] [(.int p2)])) _
      exact retI X0 hx Bd.returns (hb hby d35_10) hr
    · show Qown_mx Z p1 p2 h0 n0 _ s₁.heap _
      rw [e0]
      exact ⟨by simp [own_max, hc], N0, rfl⟩
  · obtain ⟨fs, hr, hrun, hended, hW, hsame⟩ := X0.leave (v := some (.int p1)) (fun h => by rw [Bd.returns] at h; cases h)
    refine ⟨_, _, pre0 _ ?_, hrun, hended, _, _, rfl, ?_, ⟨_, rfl⟩, hW, hsame.mono (by decide) (by decide)⟩
    · show Steps p.tables e below (s₁.setTop (mkF m 0 #[.val (.int p1), .val (.int p2)] [])) _
      refine XS.iloadN X0.here hx rfl (hb hby d35_0) rfl ?_
      refine XS.iloadN X0.here hx rfl (hb hby d35_1) rfl ?_
      refine XS.icmpNo X0.here hx rfl (hb hby d35_2) rfl (flt (hc : ¬ (p1 < p2))).1 ?_
      refine XS.iloadN X0.here hx rfl (hb hby d35_5) rfl ?_
      show Steps _ _ _ (s₁.setTop (mkF m 6 #[.val (.int p1), .val (.int p2)] [(.int p1)])) _
      refine XS.goto X0.here hx rfl (pc0 := 6) (pc' := 10) rfl (hb hby d35_6) (by decide) (by decide) ?_
      show Steps _ _ _ (s₁.setTop (mkF m 10 #[.val (.int p1), .val (.int p2)] [(.int p1)])) _
      exact retI X0 hx Bd.returns (hb hby d35_10) hr
    · show Qown_mx Z p1 p2 h0 n0 _ s₁.heap _
      rw [e0]
      exact ⟨by simp [own_max, hc], N0, rfl⟩
theorem d37_0 : decode c37 0 = .ok (.iload_n 0, 1) := by decide +kernel
theorem d37_1 : decode c37 1 = .ok (.iload_n 1, 1) := by decide +kernel
theorem d37_2 : decode c37 2 = .ok (.if_icmp .gt 7, 3) := by decide +kernel
theorem d37_5 : decode c37 5 = .ok (.iload_n 0, 1) := by decide +kernel
theorem d37_6 : decode c37 6 = .ok (.goto 4, 3) := by decide +kernel
theorem d37_10 : decode c37 10 = .ok (.ireturn, 1) := by decide +kernel
theorem ef_own_min (m : MethodId) (x0 : Int32) (x1 : Int32) : entryFrame m #[(.int x0), (.int x1)] 2 = mkF m 0 #[.val (.int x0), .val (.int x1)] [] := by first | (simp [entryFrame, mkF, argsToLocals, Value.category]; done) | rfl
def Qown_min (Z : State) (p1 : Int32) (p2 : Int32) (h0 : Heap) (n0 : Nat) (v : Option Value) (h : Heap) (L : List Loc) : Prop := v = some (.int p1) ∧ Fr n0 L ∧ h = h0
theorem own_min (l : Launch) (Z : State) (a0 : Array Value) (hw : ∀ d ∈ tables_1, d.before a0 Z = true) (ws : List Jvm.Cond) (p1 : Int32) (p2 : Int32) (h0 : Heap) (n0 : Nat) (Z0 : n0 ≤ h0.size) (hc : ¬ (p2 < p1)) :
    MetFree l mn27 (head1 (Jvm.Cond.code mn27 jdk_29_method_69_code 2 (some .int) :: ws) (⟨0, 0, 0, 0⟩ : Room)) (fun a U => a = #[(.int p1), (.int p2)] ∧ Z.Warmed39 U.vm ∧ U.heap = h0) (fun _ _ _ _ _ => True) (fun _ U o U' => ∃ v L, o = .returned v ∧ Qown_min Z p1 p2 h0 n0 v U'.heap L ∧ FrameEnd U o U' L (⟨0, 0, 0, 0⟩ : Room).cells (⟨0, 0, 0, 0⟩ : Room).slots) := by
  refine MetFree.of_bodySF (Jvm.Free.JP.mathPlain rfl (by decide +kernel)) hisR ?_
  intro p e s m args below meth c s₁ Bd hml0 hP hK
  obtain ⟨rfl, hZ, hh⟩ := hP
  have hx := Bd.exec
  have hby := Bd.bytes
  have hml : c.maxLocals = 2 := hml0
  have hown : s.vm.findClass "java/lang/Math" = some m.cls := findClass_of_methodNamed Bd.named
  have hnm := (name_of_methodNamed Bd.named Bd.method).1
  have X0 : Stand p l e (⟨0, 0, 0, 0⟩ : Room) s m #[(.int p1), (.int p2)] below meth c s₁ [] 0 0 := Stand.of_body Bd
  have e0 : s₁.heap = h0 := by rw [← hh, Bd.state]; rfl
  have N0 := Fr.nil n0
  have pre0 : ∀ t, Steps p.tables e below (s₁.setTop (mkF m 0 #[.val (.int p1), .val (.int p2)] [])) t → Steps p.tables e below (s₁.setTop (entryFrame m #[(.int p1), (.int p2)] 2)) t := fun t k => castTop (ef_own_min m (p1) (p2)) k
  obtain ⟨fs, hr, hrun, hended, hW, hsame⟩ := X0.leave (v := some (.int p1)) (fun h => by rw [Bd.returns] at h; cases h)
  refine ⟨_, _, pre0 _ ?_, hrun, hended, _, _, rfl, ?_, ⟨_, rfl⟩, hW, hsame.mono (by decide) (by decide)⟩
  · show Steps p.tables e below (s₁.setTop (mkF m 0 #[.val (.int p1), .val (.int p2)] [])) _
    refine XS.iloadN X0.here hx rfl (hb hby d37_0) rfl ?_
    refine XS.iloadN X0.here hx rfl (hb hby d37_1) rfl ?_
    refine XS.icmpNo X0.here hx rfl (hb hby d37_2) rfl (flt (hc : ¬ (p2 < p1))).2.2.1 ?_
    refine XS.iloadN X0.here hx rfl (hb hby d37_5) rfl ?_
    show Steps _ _ _ (s₁.setTop (mkF m 6 #[.val (.int p1), .val (.int p2)] [(.int p1)])) _
    refine XS.goto X0.here hx rfl (pc0 := 6) (pc' := 10) rfl (hb hby d37_6) (by decide) (by decide) ?_
    show Steps _ _ _ (s₁.setTop (mkF m 10 #[.val (.int p1), .val (.int p2)] [(.int p1)])) _
    exact retI X0 hx Bd.returns (hb hby d37_10) hr
  · show Qown_min Z p1 p2 h0 n0 _ s₁.heap _
    rw [e0]
    exact ⟨rfl, N0, rfl⟩
theorem d37_9 : decode c37 9 = .ok (.iload_n 1, 1) := by decide +kernel
theorem ef_own_min2 (m : MethodId) (x0 : Int32) (x1 : Int32) : entryFrame m #[(.int x0), (.int x1)] 2 = mkF m 0 #[.val (.int x0), .val (.int x1)] [] := by first | (simp [entryFrame, mkF, argsToLocals, Value.category]; done) | rfl
def Qown_min2 (Z : State) (p1 : Int32) (p2 : Int32) (h0 : Heap) (n0 : Nat) (v : Option Value) (h : Heap) (L : List Loc) : Prop := v = some (.int p2) ∧ Fr n0 L ∧ h = h0
theorem own_min2 (l : Launch) (Z : State) (a0 : Array Value) (hw : ∀ d ∈ tables_1, d.before a0 Z = true) (ws : List Jvm.Cond) (p1 : Int32) (p2 : Int32) (h0 : Heap) (n0 : Nat) (Z0 : n0 ≤ h0.size) (hc : p2 < p1) :
    MetFree l mn27 (head1 (Jvm.Cond.code mn27 jdk_29_method_69_code 2 (some .int) :: ws) (⟨0, 0, 0, 0⟩ : Room)) (fun a U => a = #[(.int p1), (.int p2)] ∧ Z.Warmed39 U.vm ∧ U.heap = h0) (fun _ _ _ _ _ => True) (fun _ U o U' => ∃ v L, o = .returned v ∧ Qown_min2 Z p1 p2 h0 n0 v U'.heap L ∧ FrameEnd U o U' L (⟨0, 0, 0, 0⟩ : Room).cells (⟨0, 0, 0, 0⟩ : Room).slots) := by
  refine MetFree.of_bodySF (Jvm.Free.JP.mathPlain rfl (by decide +kernel)) hisR ?_
  intro p e s m args below meth c s₁ Bd hml0 hP hK
  obtain ⟨rfl, hZ, hh⟩ := hP
  have hx := Bd.exec
  have hby := Bd.bytes
  have hml : c.maxLocals = 2 := hml0
  have hown : s.vm.findClass "java/lang/Math" = some m.cls := findClass_of_methodNamed Bd.named
  have hnm := (name_of_methodNamed Bd.named Bd.method).1
  have X0 : Stand p l e (⟨0, 0, 0, 0⟩ : Room) s m #[(.int p1), (.int p2)] below meth c s₁ [] 0 0 := Stand.of_body Bd
  have e0 : s₁.heap = h0 := by rw [← hh, Bd.state]; rfl
  have N0 := Fr.nil n0
  have pre0 : ∀ t, Steps p.tables e below (s₁.setTop (mkF m 0 #[.val (.int p1), .val (.int p2)] [])) t → Steps p.tables e below (s₁.setTop (entryFrame m #[(.int p1), (.int p2)] 2)) t := fun t k => castTop (ef_own_min2 m (p1) (p2)) k
  obtain ⟨fs, hr, hrun, hended, hW, hsame⟩ := X0.leave (v := some (.int p2)) (fun h => by rw [Bd.returns] at h; cases h)
  refine ⟨_, _, pre0 _ ?_, hrun, hended, _, _, rfl, ?_, ⟨_, rfl⟩, hW, hsame.mono (by decide) (by decide)⟩
  · show Steps p.tables e below (s₁.setTop (mkF m 0 #[.val (.int p1), .val (.int p2)] [])) _
    refine XS.iloadN X0.here hx rfl (hb hby d37_0) rfl ?_
    refine XS.iloadN X0.here hx rfl (hb hby d37_1) rfl ?_
    refine XS.icmpYes X0.here hx rfl (pc0 := 2) (pc' := 9) rfl (hb hby d37_2) rfl (tlt (hc : p2 < p1)).2.2.1 (by decide) (by decide) ?_
    refine XS.iloadN X0.here hx rfl (hb hby d37_9) rfl ?_
    show Steps _ _ _ (s₁.setTop (mkF m 10 #[.val (.int p1), .val (.int p2)] [(.int p2)])) _
    exact retI X0 hx Bd.returns (hb hby d37_10) hr
  · show Qown_min2 Z p1 p2 h0 n0 _ s₁.heap _
    rw [e0]
    exact ⟨rfl, N0, rfl⟩
theorem d34_0 : decode c34 0 = .ok (.iload_n 0, 1) := by decide +kernel
theorem d34_1 : decode c34 1 = .ok (.iload_n 1, 1) := by decide +kernel
theorem d34_2 : decode c34 2 = .ok (.iload_n 2, 1) := by decide +kernel
theorem d34_3 : decode c34 3 = .ok (.invokestatic 194, 3) := by decide +kernel
theorem pd__II_I : parseMethodDescriptor "(II)I" = some ⟨[.int, .int], some .int⟩ := by decide +kernel
theorem d34_6 : decode c34 6 = .ok (.iadd, 1) := by decide +kernel
theorem d34_7 : decode c34 7 = .ok (.istore_n 3, 1) := by decide +kernel
theorem d34_8 : decode c34 8 = .ok (.iconst 0, 1) := by decide +kernel
theorem d34_9 : decode c34 9 = .ok (.iload_n 3, 1) := by decide +kernel
theorem d34_10 : decode c34 10 = .ok (.if_icmp .ge 11, 3) := by decide +kernel
theorem d34_13 : decode c34 13 = .ok (.iload_n 3, 1) := by decide +kernel
theorem d34_14 : decode c34 14 = .ok (.ldc 200, 2) := by decide +kernel
theorem d34_16 : decode c34 16 = .ok (.if_icmp .gt 5, 3) := by decide +kernel
theorem d34_19 : decode c34 19 = .ok (.iload_n 3, 1) := by decide +kernel
theorem d34_20 : decode c34 20 = .ok (.ireturn, 1) := by decide +kernel
theorem pn_jdk_internal_util_ArraysSupport : plainName "jdk/internal/util/ArraysSupport" = true := by first | (simp [plainName, overriddenIn]; done) | decide +kernel
theorem ef_own_newLen (m : MethodId) (x0 : Int32) (x1 : Int32) (x2 : Int32) : entryFrame m #[(.int x0), (.int x1), (.int x2)] 4 = mkF m 0 #[.val (.int x0), .val (.int x1), .val (.int x2), .unset] [] := by first | (simp [entryFrame, mkF, argsToLocals, Value.category]; done) | rfl
def Qown_newLen (Z : State) (p1 : Int32) (p2 : Int32) (p3 : Int32) (h0 : Heap) (n0 : Nat) (v : Option Value) (h : Heap) (L : List Loc) : Prop := v = some (.int (own_nl p1 p2 p3)) ∧ Fr n0 L ∧ h = h0
theorem own_newLen (l : Launch) (Z : State) (a0 : Array Value) (hw : ∀ d ∈ tables_1, d.before a0 Z = true) (ws : List Jvm.Cond) (p1 : Int32) (p2 : Int32) (p3 : Int32) (h0 : Heap) (n0 : Nat) (Z0 : n0 ≤ h0.size) (h1 : (0 : Int32) < own_nl p1 p2 p3) (h2 : ¬ ((2147483639 : Int32) < own_nl p1 p2 p3)) :
    MetFree l mn49 (head1 (Jvm.Cond.code mn49 jdk_48_method_27_code 4 (some .int) :: ws) (⟨1, 0, 0, 14⟩ : Room)) (fun a U => a = #[(.int p1), (.int p2), (.int p3)] ∧ Z.Warmed39 U.vm ∧ U.heap = h0) (fun _ _ _ _ _ => True) (fun _ U o U' => ∃ v L, o = .returned v ∧ Qown_newLen Z p1 p2 p3 h0 n0 v U'.heap L ∧ FrameEnd U o U' L (⟨1, 0, 0, 14⟩ : Room).cells (⟨1, 0, 0, 14⟩ : Room).slots) := by
  refine MetFree.of_bodySF (plainFor_of_name pn_jdk_internal_util_ArraysSupport) hisR ?_
  intro p e s m args below meth c s₁ Bd hml0 hP hK
  obtain ⟨rfl, hZ, hh⟩ := hP
  have hx := Bd.exec
  have hby := Bd.bytes
  have hml : c.maxLocals = 4 := hml0
  have hown : s.vm.findClass "jdk/internal/util/ArraysSupport" = some m.cls := findClass_of_methodNamed Bd.named
  have hnm := (name_of_methodNamed Bd.named Bd.method).1
  have X0 : Stand p l e (⟨1, 0, 0, 14⟩ : Room) s m #[(.int p1), (.int p2), (.int p3)] below meth c s₁ [] 0 0 := Stand.of_body Bd
  have e0 : s₁.heap = h0 := by rw [← hh, Bd.state]; rfl
  have N0 := Fr.nil n0
  have pre0 : ∀ t, Steps p.tables e below (s₁.setTop (mkF m 0 #[.val (.int p1), .val (.int p2), .val (.int p3), .unset] [])) t → Steps p.tables e below (s₁.setTop (entryFrame m #[(.int p1), (.int p2), (.int p3)] 4)) t := fun t k => castTop (ef_own_newLen m (p1) (p2) (p3)) k
  obtain ⟨_, _, ⟨T1, L1, k1, n1⟩, -, X1, ⟨Lc1, hQ1, l1, y1, z1⟩, st1⟩ := Jvm.LawKit.callS X0 hx (y := mn26) hown (mvT hZ (wJ hw 240 rfl)) (mvT hZ (wJ hw 241 rfl)) (mvT hZ (wJ hw 242 rfl)) (mvT hZ (wJ hw 243 rfl)) (by decide) (backOf (W := 1) (own_mx l Z a0 hw [] p2 p3  h0 n0 Z0 ) hZ (wJ hw 243 rfl) (wJ hw 242 rfl) (by decide) (by decide)) (g := (mkF m 3 #[.val (.int p1), .val (.int p2), .val (.int p3), .unset] [(.int p3), (.int p2), (.int p1)])) rfl (by rw [hml]; rfl) (argsL := [(.int p2), (.int p3)]) (rest := [(.int p1)]) (lenOf pd__II_I rfl) rfl (by show 2 * 0 + _ ≤ _; exact Nat.le_of_eq rfl) (hb hby d34_3) (fun _ _ => ⟨rfl, e0, (by decide : 0 + 0 ≤ _), (by decide : 0 + 0 ≤ _)⟩)
  dsimp only [Pt.U, Pt.locs, Pt.cells, Pt.slots] at X1 l1 y1 z1 st1 hQ1
  replace X1 := X1.more (Nat.le_of_eq (show k1 = 0 from y1)) (Nat.le_of_eq (show n1 = 0 from z1))
  obtain ⟨rfl, Nq1, e1⟩ := hQ1
  have N1 : Fr n0 L1 := by rw [l1]; exact Fr.app N0 Nq1
  obtain ⟨fs, hr, hrun, hended, hW, hsame⟩ := X1.leave (v := some (.int (own_nl p1 p2 p3))) (fun h => by rw [Bd.returns] at h; cases h)
  refine ⟨_, _, pre0 _ ?_, hrun, hended, _, _, rfl, ?_, ⟨_, rfl⟩, hW, hsame.mono (by decide) (by decide)⟩
  · show Steps p.tables e below (s₁.setTop (mkF m 0 #[.val (.int p1), .val (.int p2), .val (.int p3), .unset] [])) _
    refine XS.iloadN X0.here hx rfl (hb hby d34_0) rfl ?_
    refine XS.iloadN X0.here hx rfl (hb hby d34_1) rfl ?_
    refine XS.iloadN X0.here hx rfl (hb hby d34_2) rfl ?_
    refine st1 _ ?_
    show Steps _ _ _ (T1.setTop (mkF m 6 #[.val (.int p1), .val (.int p2), .val (.int p3), .unset] [(.int (own_max p2 p3)), (.int p1)])) _
    refine XS.iadd X1.here hx rfl (hb hby d34_6) rfl ?_
    refine XS.istoreN X1.here hx rfl (hb hby d34_7) rfl (l' := #[.val (.int p1), .val (.int p2), .val (.int p3), .val (.int (own_nl p1 p2 p3))]) rfl ?_
    refine XS.iconst X1.here hx rfl (hb hby d34_8) ?_
    refine XS.iloadN X1.here hx rfl (hb hby d34_9) rfl ?_
    show Steps _ _ _ (T1.setTop (mkF m 10 #[.val (.int p1), .val (.int p2), .val (.int p3), .val (.int (own_nl p1 p2 p3))] [(.int (own_nl p1 p2 p3)), (.int (0 : Int32))])) _
    refine XS.icmpNo X1.here hx rfl (hb hby d34_10) rfl (tlt (h1 : (0 : Int32) < (own_nl p1 p2 p3))).2.1 ?_
    refine XS.iloadN X1.here hx rfl (hb hby d34_13) rfl ?_
    refine X1.ldcInt hx hown (mvT hZ (wJ hw 244 rfl)) (g := (mkF m 14 #[.val (.int p1), .val (.int p2), .val (.int p3), .val (.int (own_nl p1 p2 p3))] [(.int (own_nl p1 p2 p3))])) rfl (hb hby d34_14) _ ?_
    refine XS.icmpNo X1.here hx rfl (hb hby d34_16) rfl (flt (h2 : ¬ ((2147483639 : Int32) < (own_nl p1 p2 p3)))).2.2.1 ?_
    show Steps _ _ _ (T1.setTop (mkF m 19 #[.val (.int p1), .val (.int p2), .val (.int p3), .val (.int (own_nl p1 p2 p3))] [])) _
    refine XS.iloadN X1.here hx rfl (hb hby d34_19) rfl ?_
    show Steps _ _ _ (T1.setTop (mkF m 20 #[.val (.int p1), .val (.int p2), .val (.int p3), .val (.int (own_nl p1 p2 p3))] [(.int (own_nl p1 p2 p3))])) _
    exact retI X1 hx Bd.returns (hb hby d34_20) hr
  · show Qown_newLen Z p1 p2 p3 h0 n0 _ T1.heap _
    rw [e1]
    exact ⟨rfl, N1, rfl⟩
theorem d33_0 : decode c33 0 = .ok (.aload_n 0, 1) := by decide +kernel
theorem d33_1 : decode c33 1 = .ok (.getfield 15, 3) := by decide +kernel
theorem d33_4 : decode c33 4 = .ok (.arraylength, 1) := by decide +kernel
theorem d33_5 : decode c33 5 = .ok (.istore_n 2, 1) := by decide +kernel
theorem d33_6 : decode c33 6 = .ok (.iload_n 1, 1) := by decide +kernel
theorem d33_7 : decode c33 7 = .ok (.aload_n 0, 1) := by decide +kernel
theorem d33_8 : decode c33 8 = .ok (.getfield 22, 3) := by decide +kernel
theorem d33_11 : decode c33 11 = .ok (.ishl, 1) := by decide +kernel
theorem d33_12 : decode c33 12 = .ok (.istore_n 3, 1) := by decide +kernel
theorem d33_13 : decode c33 13 = .ok (.iload_n 3, 1) := by decide +kernel
theorem d33_14 : decode c33 14 = .ok (.iload_n 2, 1) := by decide +kernel
theorem d33_15 : decode c33 15 = .ok (.isub, 1) := by decide +kernel
theorem d33_16 : decode c33 16 = .ok (.istore 4, 2) := by decide +kernel
theorem d33_18 : decode c33 18 = .ok (.iload_n 2, 1) := by decide +kernel
theorem d33_19 : decode c33 19 = .ok (.iload 4, 2) := by decide +kernel
theorem d33_21 : decode c33 21 = .ok (.iload_n 2, 1) := by decide +kernel
theorem d33_22 : decode c33 22 = .ok (.iconst 2, 1) := by decide +kernel
theorem d33_23 : decode c33 23 = .ok (.aload_n 0, 1) := by decide +kernel
theorem d33_24 : decode c33 24 = .ok (.getfield 22, 3) := by decide +kernel
theorem d33_27 : decode c33 27 = .ok (.ishl, 1) := by decide +kernel
theorem d33_28 : decode c33 28 = .ok (.iadd, 1) := by decide +kernel
theorem d33_29 : decode c33 29 = .ok (.invokestatic 114, 3) := by decide +kernel
theorem pd__III_I : parseMethodDescriptor "(III)I" = some ⟨[.int, .int, .int], some .int⟩ := by decide +kernel
theorem d33_32 : decode c33 32 = .ok (.istore 5, 2) := by decide +kernel
theorem d33_34 : decode c33 34 = .ok (.iload 5, 2) := by decide +kernel
theorem d33_36 : decode c33 36 = .ok (.ldc 39, 2) := by decide +kernel
theorem d33_38 : decode c33 38 = .ok (.if_icmp .ne 13, 3) := by decide +kernel
theorem d33_51 : decode c33 51 = .ok (.iload 5, 2) := by decide +kernel
theorem d33_53 : decode c33 53 = .ok (.aload_n 0, 1) := by decide +kernel
theorem d33_54 : decode c33 54 = .ok (.getfield 22, 3) := by decide +kernel
theorem d33_57 : decode c33 57 = .ok (.ishr, 1) := by decide +kernel
theorem d33_58 : decode c33 58 = .ok (.ireturn, 1) := by decide +kernel
theorem ef_own_newCap (m : MethodId) (x0 : Addr) (x1 : Int32) : entryFrame m #[(.ref x0), (.int x1)] 6 = mkF m 0 #[.val (.ref x0), .val (.int x1), .unset, .unset, .unset, .unset] [] := by first | (simp [entryFrame, mkF, argsToLocals, Value.category]; done) | rfl
def Qown_newCap (Z : State) (a1 : Addr) (mn : Int32) (b : Addr) (k : ClassId) (cap : Int32) (vs : List Value) (h0 : Heap) (n0 : Nat) (v : Option Value) (h : Heap) (L : List Loc) : Prop := v = some (.int (own_nc cap mn)) ∧ Fr n0 L ∧ h = h0
theorem own_newCap (l : Launch) (Z : State) (a0 : Array Value) (hw : ∀ d ∈ tables_1, d.before a0 Z = true) (ws : List Jvm.Cond) (a1 : Addr) (mn : Int32) (b : Addr) (k : ClassId) (cap : Int32) (vs : List Value) (h0 : Heap) (n0 : Nat) (Z0 : n0 ≤ h0.size) (F1 : Fld Z h0 a1 "java/lang/AbstractStringBuilder" "value" "[B" (.ref b)) (F2 : Fld Z h0 a1 "java/lang/AbstractStringBuilder" "coder" "B" (.int (0 : Int32))) (V1 : Arv Z h0 b k .byte cap vs (.int (0 : Int32))) (hg : own_gr cap mn) :
    MetFree l mn22 (head1 (Jvm.Cond.code mn22 jdk_68_method_10_code 6 (some .int) :: ws) (⟨2, 0, 0, 29⟩ : Room)) (fun a U => a = #[(.ref a1), (.int mn)] ∧ Z.Warmed39 U.vm ∧ U.heap = h0) (fun _ _ _ _ _ => True) (fun _ U o U' => ∃ v L, o = .returned v ∧ Qown_newCap Z a1 mn b k cap vs h0 n0 v U'.heap L ∧ FrameEnd U o U' L (⟨2, 0, 0, 29⟩ : Room).cells (⟨2, 0, 0, 29⟩ : Room).slots) := by
  refine MetFree.of_bodySF (plainFor_of_name pn_java_lang_AbstractStringBuilder) hisR ?_
  intro p e s m args below meth c s₁ Bd hml0 hP hK
  obtain ⟨rfl, hZ, hh⟩ := hP
  have hx := Bd.exec
  have hby := Bd.bytes
  have hml : c.maxLocals = 6 := hml0
  have hown : s.vm.findClass "java/lang/AbstractStringBuilder" = some m.cls := findClass_of_methodNamed Bd.named
  have hnm := (name_of_methodNamed Bd.named Bd.method).1
  have X0 : Stand p l e (⟨2, 0, 0, 29⟩ : Room) s m #[(.ref a1), (.int mn)] below meth c s₁ [] 0 0 := Stand.of_body Bd
  have e0 : s₁.heap = h0 := by rw [← hh, Bd.state]; rfl
  have N0 := Fr.nil n0
  have pre0 : ∀ t, Steps p.tables e below (s₁.setTop (mkF m 0 #[.val (.ref a1), .val (.int mn), .unset, .unset, .unset, .unset] [])) t → Steps p.tables e below (s₁.setTop (entryFrame m #[(.ref a1), (.int mn)] 6)) t := fun t k => castTop (ef_own_newCap m (a1) (mn)) k
  obtain ⟨T1, X1, e1, st1⟩ := getF X0 hx hZ hown (host := "") (Or.inl (wJ hw 91 rfl)) Via.refl e0 F1 (g := (mkF m 1 #[.val (.ref a1), .val (.int mn), .unset, .unset, .unset, .unset] [(.ref a1)])) rfl rfl (hb hby d33_1)
  obtain ⟨cl2, Ar2, qc2, S2, Nn2, H2, G2⟩ := id V1
  obtain ⟨T3, X3, e3, st3⟩ := getF X1 hx hZ hown (host := "") (Or.inl (wJ hw 93 rfl)) Via.refl e1 F2 (g := (mkF m 8 #[.val (.ref a1), .val (.int mn), .val (.int cap), .unset, .unset, .unset] [(.ref a1), (.int mn)])) rfl rfl (hb hby d33_8)
  obtain ⟨T4, X4, e4, st4⟩ := getF X3 hx hZ hown (host := "") (Or.inl (wJ hw 93 rfl)) Via.refl e3 F2 (g := (mkF m 24 #[.val (.ref a1), .val (.int mn), .val (.int cap), .val (.int mn), .val (.int (mn - cap)), .unset] [(.ref a1), (.int (2 : Int32)), (.int cap), (.int (mn - cap)), (.int cap)])) rfl rfl (hb hby d33_24)
  obtain ⟨_, _, ⟨T5, L5, k5, n5⟩, -, X5, ⟨Lc5, hQ5, l5, y5, z5⟩, st5⟩ := Jvm.LawKit.callS X4 hx (y := mn49) hown (mvT hZ (wJ hw 236 rfl)) (mvT hZ (wJ hw 237 rfl)) (mvT hZ (wJ hw 238 rfl)) (mvT hZ (wJ hw 239 rfl)) (by decide) (backOf (W := 0) (own_newLen l Z a0 hw [] cap (mn - cap) (cap + (2 : Int32))  h0 n0 Z0 hg.1 hg.2.1) hZ (wJ hw 239 rfl) (wJ hw 238 rfl) (by decide) (by decide)) (g := (mkF m 29 #[.val (.ref a1), .val (.int mn), .val (.int cap), .val (.int mn), .val (.int (mn - cap)), .unset] [(.int (cap + (2 : Int32))), (.int (mn - cap)), (.int cap)])) rfl (by rw [hml]; rfl) (argsL := [(.int cap), (.int (mn - cap)), (.int (cap + (2 : Int32)))]) (rest := []) (lenOf pd__III_I rfl) rfl (by show 2 * 0 + _ ≤ _; exact Nat.le_of_eq rfl) (hb hby d33_29) (fun _ _ => ⟨rfl, e4, (by decide : 0 + 0 ≤ _), (by decide : 0 + 0 ≤ _)⟩)
  dsimp only [Pt.U, Pt.locs, Pt.cells, Pt.slots] at X5 l5 y5 z5 st5 hQ5
  replace X5 := X5.more (Nat.le_of_eq (show k5 = 0 from y5)) (Nat.le_of_eq (show n5 = 0 from z5))
  obtain ⟨rfl, Nq5, e5⟩ := hQ5
  have N5 : Fr n0 L5 := by rw [l5]; exact Fr.app N0 Nq5
  obtain ⟨T6, X6, e6, st6⟩ := getF X5 hx hZ hown (host := "") (Or.inl (wJ hw 93 rfl)) Via.refl e5 F2 (g := (mkF m 54 #[.val (.ref a1), .val (.int mn), .val (.int cap), .val (.int mn), .val (.int (mn - cap)), .val (.int (own_nc cap mn))] [(.ref a1), (.int (own_nc cap mn))])) rfl rfl (hb hby d33_54)
  obtain ⟨fs, hr, hrun, hended, hW, hsame⟩ := X6.leave (v := some (.int ((own_nc cap mn) >>> ((0 : Int32) &&& 31)))) (fun h => by rw [Bd.returns] at h; cases h)
  refine ⟨_, _, pre0 _ ?_, hrun, hended, _, _, rfl, ?_, ⟨_, rfl⟩, hW, hsame.mono (by decide) (by decide)⟩
  · show Steps p.tables e below (s₁.setTop (mkF m 0 #[.val (.ref a1), .val (.int mn), .unset, .unset, .unset, .unset] [])) _
    refine XS.aloadN X0.here hx rfl (hb hby d33_0) rfl rfl ?_
    refine st1 _ ?_
    refine X1.arraylength hx (by rw [e1]; exact Ar2.1) (State.isArrayOf_alike hZ.alike Ar2.2.1) (g := (mkF m 4 #[.val (.ref a1), .val (.int mn), .unset, .unset, .unset, .unset] [(.ref b)])) rfl rfl (hb hby d33_4) _ ?_
    rw [len_of S2 Nn2]
    show Steps _ _ _ (T1.setTop (mkF m 5 #[.val (.ref a1), .val (.int mn), .unset, .unset, .unset, .unset] [(.int cap)])) _
    refine XS.istoreN X1.here hx rfl (hb hby d33_5) rfl (l' := #[.val (.ref a1), .val (.int mn), .val (.int cap), .unset, .unset, .unset]) rfl ?_
    refine XS.iloadN X1.here hx rfl (hb hby d33_6) rfl ?_
    refine XS.aloadN X1.here hx rfl (hb hby d33_7) rfl rfl ?_
    refine st3 _ ?_
    show Steps _ _ _ (T3.setTop (mkF m 11 #[.val (.ref a1), .val (.int mn), .val (.int cap), .unset, .unset, .unset] [(.int (0 : Int32)), (.int mn)])) _
    refine XS.ishl X3.here hx rfl (hb hby d33_11) rfl ?_
    show Steps _ _ _ (T3.setTop (mkF m 12 #[.val (.ref a1), .val (.int mn), .val (.int cap), .unset, .unset, .unset] [(.int (mn <<< ((0 : Int32) &&& 31)))])) _
    rw [own_shl0]
    show Steps _ _ _ (T3.setTop (mkF m 12 #[.val (.ref a1), .val (.int mn), .val (.int cap), .unset, .unset, .unset] [(.int mn)])) _
    refine XS.istoreN X3.here hx rfl (hb hby d33_12) rfl (l' := #[.val (.ref a1), .val (.int mn), .val (.int cap), .val (.int mn), .unset, .unset]) rfl ?_
    refine XS.iloadN X3.here hx rfl (hb hby d33_13) rfl ?_
    refine XS.iloadN X3.here hx rfl (hb hby d33_14) rfl ?_
    refine XS.isub X3.here hx rfl (hb hby d33_15) rfl ?_
    show Steps _ _ _ (T3.setTop (mkF m 16 #[.val (.ref a1), .val (.int mn), .val (.int cap), .val (.int mn), .unset, .unset] [(.int (mn - cap))])) _
    refine XS.istore X3.here hx rfl (hb hby d33_16) rfl (l' := #[.val (.ref a1), .val (.int mn), .val (.int cap), .val (.int mn), .val (.int (mn - cap)), .unset]) rfl ?_
    refine XS.iloadN X3.here hx rfl (hb hby d33_18) rfl ?_
    refine XS.iload X3.here hx rfl (hb hby d33_19) rfl ?_
    refine XS.iloadN X3.here hx rfl (hb hby d33_21) rfl ?_
    show Steps _ _ _ (T3.setTop (mkF m 22 #[.val (.ref a1), .val (.int mn), .val (.int cap), .val (.int mn), .val (.int (mn - cap)), .unset] [(.int cap), (.int (mn - cap)), (.int cap)])) _
    refine XS.iconst X3.here hx rfl (hb hby d33_22) ?_
    refine XS.aloadN X3.here hx rfl (hb hby d33_23) rfl rfl ?_
    refine st4 _ ?_
    refine XS.ishl X4.here hx rfl (hb hby d33_27) rfl ?_
    show Steps _ _ _ (T4.setTop (mkF m 28 #[.val (.ref a1), .val (.int mn), .val (.int cap), .val (.int mn), .val (.int (mn - cap)), .unset] [(.int ((2 : Int32) <<< ((0 : Int32) &&& 31))), (.int cap), (.int (mn - cap)), (.int cap)])) _
    rw [own_shl0]
    show Steps _ _ _ (T4.setTop (mkF m 28 #[.val (.ref a1), .val (.int mn), .val (.int cap), .val (.int mn), .val (.int (mn - cap)), .unset] [(.int (2 : Int32)), (.int cap), (.int (mn - cap)), (.int cap)])) _
    refine XS.iadd X4.here hx rfl (hb hby d33_28) rfl ?_
    refine st5 _ ?_
    refine XS.istore X5.here hx rfl (hb hby d33_32) rfl (l' := #[.val (.ref a1), .val (.int mn), .val (.int cap), .val (.int mn), .val (.int (mn - cap)), .val (.int (own_nc cap mn))]) rfl ?_
    refine XS.iload X5.here hx rfl (hb hby d33_34) rfl ?_
    show Steps _ _ _ (T5.setTop (mkF m 36 #[.val (.ref a1), .val (.int mn), .val (.int cap), .val (.int mn), .val (.int (mn - cap)), .val (.int (own_nc cap mn))] [(.int (own_nc cap mn))])) _
    refine X5.ldcInt hx hown (mvT hZ (wJ hw 245 rfl)) (g := (mkF m 36 #[.val (.ref a1), .val (.int mn), .val (.int cap), .val (.int mn), .val (.int (mn - cap)), .val (.int (own_nc cap mn))] [(.int (own_nc cap mn))])) rfl (hb hby d33_36) _ ?_
    refine XS.icmpYes X5.here hx rfl (pc0 := 38) (pc' := 51) rfl (hb hby d33_38) rfl (feq (hg.2.2.1 : ¬ ((own_nc cap mn) = (2147483647 : Int32)))).2 (by decide) (by decide) ?_
    refine XS.iload X5.here hx rfl (hb hby d33_51) rfl ?_
    refine XS.aloadN X5.here hx rfl (hb hby d33_53) rfl rfl ?_
    show Steps _ _ _ (T5.setTop (mkF m 54 #[.val (.ref a1), .val (.int mn), .val (.int cap), .val (.int mn), .val (.int (mn - cap)), .val (.int (own_nc cap mn))] [(.ref a1), (.int (own_nc cap mn))])) _
    refine st6 _ ?_
    refine XS.ishr X6.here hx rfl (hb hby d33_57) rfl ?_
    show Steps _ _ _ (T6.setTop (mkF m 58 #[.val (.ref a1), .val (.int mn), .val (.int cap), .val (.int mn), .val (.int (mn - cap)), .val (.int (own_nc cap mn))] [(.int ((own_nc cap mn) >>> ((0 : Int32) &&& 31)))])) _
    exact retI X6 hx Bd.returns (hb hby d33_58) hr
  · show Qown_newCap Z a1 mn b k cap vs h0 n0 _ T6.heap _
    rw [e6]
    exact ⟨by rw [own_shr0], N5, rfl⟩
theorem d36_0 : decode c36 0 = .ok (.iload_n 1, 1) := by decide +kernel
theorem d36_1 : decode c36 1 = .ok (.aload_n 0, 1) := by decide +kernel
theorem d36_2 : decode c36 2 = .ok (.arraylength, 1) := by decide +kernel
theorem d36_3 : decode c36 3 = .ok (.if_icmp .ne 11, 3) := by decide +kernel
theorem d36_14 : decode c36 14 = .ok (.iload_n 1, 1) := by decide +kernel
theorem d36_15 : decode c36 15 = .ok (.newarray .byte, 2) := by decide +kernel
theorem d36_17 : decode c36 17 = .ok (.astore_n 2, 1) := by decide +kernel
theorem d36_18 : decode c36 18 = .ok (.aload_n 0, 1) := by decide +kernel
theorem d36_19 : decode c36 19 = .ok (.iconst 0, 1) := by decide +kernel
theorem d36_20 : decode c36 20 = .ok (.aload_n 2, 1) := by decide +kernel
theorem d36_21 : decode c36 21 = .ok (.iconst 0, 1) := by decide +kernel
theorem d36_22 : decode c36 22 = .ok (.aload_n 0, 1) := by decide +kernel
theorem d36_23 : decode c36 23 = .ok (.arraylength, 1) := by decide +kernel
theorem d36_24 : decode c36 24 = .ok (.iload_n 1, 1) := by decide +kernel
theorem d36_25 : decode c36 25 = .ok (.invokestatic 304, 3) := by decide +kernel
theorem d36_28 : decode c36 28 = .ok (.invokestatic 150, 3) := by decide +kernel
theorem d36_31 : decode c36 31 = .ok (.aload_n 2, 1) := by decide +kernel
theorem d36_32 : decode c36 32 = .ok (.areturn, 1) := by decide +kernel
theorem pn_java_util_Arrays : plainName "java/util/Arrays" = true := by first | (simp [plainName, overriddenIn]; done) | decide +kernel
theorem ef_own_cpy (m : MethodId) (x0 : Addr) (x1 : Int32) : entryFrame m #[(.ref x0), (.int x1)] 3 = mkF m 0 #[.val (.ref x0), .val (.int x1), .unset] [] := by first | (simp [entryFrame, mkF, argsToLocals, Value.category]; done) | rfl
def Qown_cpy (Z : State) (a1 : Addr) (nc : Int32) (k : ClassId) (cap : Int32) (vs : List Value) (h0 : Heap) (n0 : Nat) (v : Option Value) (h : Heap) (L : List Loc) : Prop := (∃ b2 : Addr, v = some (.ref b2) ∧ Fr n0 L ∧ Keep h0 h [] ∧ n0 ≤ b2 ∧ h0.size ≤ b2 ∧ ∃ (k2 : ClassId) (vs2 : List Value), vs2.length = nc.toNatClampNeg ∧ Arv Z h b2 k2 .byte nc vs2 (.int (0 : Int32)) ∧ Exa Z h b2 "[B")
theorem own_cpy (l : Launch) (Z : State) (a0 : Array Value) (hw : ∀ d ∈ tables_1, d.before a0 Z = true) (ws : List Jvm.Cond) (a1 : Addr) (nc : Int32) (k : ClassId) (cap : Int32) (vs : List Value) (h0 : Heap) (n0 : Nat) (Z0 : n0 ≤ h0.size) (V1 : Arv Z h0 a1 k .byte cap vs (.int (0 : Int32))) (hA : ¬ (nc = cap)) (hB : ¬ (nc < cap)) (hC : ¬ (nc < 0)) (hD : nc.toNatClampNeg ≤ 128) (hE : cap.toNatClampNeg ≤ nc.toNatClampNeg) :
    MetFree l mn46 (head1 (Jvm.Cond.code mn46 jdk_65_method_121_code 3 (some (.array .byte)) :: ws) (⟨1, 1, 128, 18⟩ : Room)) (fun a U => a = #[(.ref a1), (.int nc)] ∧ Z.Warmed39 U.vm ∧ U.heap = h0) (fun _ _ _ _ _ => True) (fun _ U o U' => ∃ v L, o = .returned v ∧ Qown_cpy Z a1 nc k cap vs h0 n0 v U'.heap L ∧ FrameEnd U o U' L (⟨1, 1, 128, 18⟩ : Room).cells (⟨1, 1, 128, 18⟩ : Room).slots) := by
  refine MetFree.of_bodySF (plainFor_of_name pn_java_util_Arrays) hisR ?_
  intro p e s m args below meth c s₁ Bd hml0 hP hK
  obtain ⟨rfl, hZ, hh⟩ := hP
  have hx := Bd.exec
  have hby := Bd.bytes
  have hml : c.maxLocals = 3 := hml0
  have hown : s.vm.findClass "java/util/Arrays" = some m.cls := findClass_of_methodNamed Bd.named
  have hnm := (name_of_methodNamed Bd.named Bd.method).1
  have X0 : Stand p l e (⟨1, 1, 128, 18⟩ : Room) s m #[(.ref a1), (.int nc)] below meth c s₁ [] 0 0 := Stand.of_body Bd
  have e0 : s₁.heap = h0 := by rw [← hh, Bd.state]; rfl
  have N0 := Fr.nil n0
  have pre0 : ∀ t, Steps p.tables e below (s₁.setTop (mkF m 0 #[.val (.ref a1), .val (.int nc), .unset] [])) t → Steps p.tables e below (s₁.setTop (entryFrame m #[(.ref a1), (.int nc)] 3)) t := fun t k => castTop (ef_own_cpy m (a1) (nc)) k
  obtain ⟨_, _, _, _, hc0, _⟩ := id V1
  obtain ⟨cl1, Ar1, qc1, S1, Nn1, H1, G1⟩ := id V1
  obtain ⟨T2, h2, k2, X2, e2, E2, A2, Ax2, st2⟩ := newPE X0 hx hZ (wJ hw 14 rfl) e0 (g := (mkF m 15 #[.val (.ref a1), .val (.int nc), .unset] [(.int nc)])) rfl (hb hby d36_15) rfl hC (cap := 128) hD (by decide) (by decide) (by decide) (ad := "[B") (by decide)
  obtain ⟨b2, g2⟩ : ∃ z, z = h0.size := ⟨_, rfl⟩
  rw [← g2] at A2 Ax2 st2
  have V2 : Arv Z h2 b2 k2 .byte nc (List.replicate (nc).toNatClampNeg (.int (0 : Int32))) (.int (0 : Int32)) := (Arv.new A2 hC).pad (pad_rep [] (.int (0 : Int32)) (nc).toNatClampNeg)
  have g_b2 : n0 ≤ b2 := Nat.le_trans Z0 (Nat.le_of_eq g2.symm)
  have sz_b2 : h0.size ≤ b2 := Nat.le_trans (Keep.refl h0 []).1 (Nat.le_of_eq g2.symm)
  have Z2 : n0 ≤ h2.size := Nat.le_trans Z0 E2.1
  have K2 : Keep h0 h2 [] := (Keep.refl h0 []).ext E2
  have fc4 := (V1.ext E2)
  obtain ⟨cl3, Ar3, qc3, S3, Nn3, H3, G3⟩ := id fc4
  obtain ⟨_, _, ⟨T5, L5, k5, n5⟩, -, X5, ⟨Lc5, hQ5, l5, y5, z5⟩, st5⟩ := Jvm.LawKit.callS X2 hx (y := mn27) hown (mvT hZ (wJ hw 250 rfl)) (mvT hZ (wJ hw 251 rfl)) (mvT hZ (wJ hw 242 rfl)) (mvT hZ (wJ hw 252 rfl)) (by decide) (backOf (W := 4) (own_min l Z a0 hw [] cap nc  h2 n0 Z2 hB) hZ (wJ hw 252 rfl) (wJ hw 242 rfl) (by decide) (by decide)) (g := (mkF m 25 #[.val (.ref a1), .val (.int nc), .val (.ref b2)] [(.int nc), (.int cap), (.int (0 : Int32)), (.ref b2), (.int (0 : Int32)), (.ref a1)])) rfl (by rw [hml]; rfl) (argsL := [(.int cap), (.int nc)]) (rest := [(.int (0 : Int32)), (.ref b2), (.int (0 : Int32)), (.ref a1)]) (lenOf pd__II_I rfl) rfl (by show 2 * 0 + _ ≤ _; exact Nat.le_of_eq rfl) (hb hby d36_25) (fun _ _ => ⟨rfl, e2, (by decide : 1 + 0 ≤ _), (by decide : 128 + 0 ≤ _)⟩)
  dsimp only [Pt.U, Pt.locs, Pt.cells, Pt.slots] at X5 l5 y5 z5 st5 hQ5
  replace X5 := X5.more (Nat.le_of_eq (show k5 = 1 from y5)) (Nat.le_of_eq (show n5 = 128 from z5))
  obtain ⟨rfl, Nq5, e5⟩ := hQ5
  have N5 : Fr n0 L5 := by rw [l5]; exact Fr.app N0 Nq5
  have ne_a1_b2 : a1 ≠ b2 := Nat.ne_of_lt (Nat.lt_of_lt_of_le V1.lt (Nat.le_of_eq g2.symm))
  obtain ⟨T6, h6, L6, X6, e6, N6, Kq6, V6, st6⟩ := cpA X5 hx hZ hown (wJ hw 253 rfl) (wJ hw 192 rfl) (wJ hw 190 rfl) (wJ hw 191 rfl) e5 fc4 V2 (Or.inl ⟨rfl, rfl⟩) (by decide) (by decide) hc0 (by show (0 : Int32).toNatClampNeg + _ ≤ _; simp) (by show (0 : Int32).toNatClampNeg + _ ≤ _; simpa using hE) rfl (by show (0 : Int32).toNatClampNeg + _ ≤ _; simpa using hE) N5 g_b2 (g := (mkF m 28 #[.val (.ref a1), .val (.int nc), .val (.ref b2)] [(.int cap), (.int (0 : Int32)), (.ref b2), (.int (0 : Int32)), (.ref a1)])) rfl (by rw [hml]; rfl) rfl (hb hby d36_28) (by decide) (W := 0) (by show 2 * 0 + _ ≤ _; exact Nat.le_of_eq rfl) (by decide)
  obtain ⟨vs6, hl6, Vc6⟩ : ∃ w : List Value, w.length = ((List.replicate (nc).toNatClampNeg (.int (0 : Int32))) : List Value).length ∧ Arv Z h6 b2 k2 .byte nc w (.int (0 : Int32)) := ⟨_, own_len _ _ rfl (by show (0 : Int32).toNatClampNeg + _ ≤ _; simpa using hE), V6⟩
  have Z6 : n0 ≤ h6.size := Nat.le_trans Z2 Kq6.1
  have K6 : Keep h0 h6 [] := K2.trans Kq6 (allS (Or.inr sz_b2) all0)
  have fc7 := (Ax2.keep Kq6)
  obtain ⟨fs, hr, hrun, hended, hW, hsame⟩ := X6.leave (v := some (.ref b2)) (fun h => by rw [Bd.returns] at h; cases h)
  refine ⟨_, _, pre0 _ ?_, hrun, hended, _, _, rfl, ?_, ⟨_, rfl⟩, hW, hsame.mono (by decide) (by decide)⟩
  · show Steps p.tables e below (s₁.setTop (mkF m 0 #[.val (.ref a1), .val (.int nc), .unset] [])) _
    refine XS.iloadN X0.here hx rfl (hb hby d36_0) rfl ?_
    refine XS.aloadN X0.here hx rfl (hb hby d36_1) rfl rfl ?_
    refine X0.arraylength hx (by rw [e0]; exact Ar1.1) (State.isArrayOf_alike hZ.alike Ar1.2.1) (g := (mkF m 2 #[.val (.ref a1), .val (.int nc), .unset] [(.ref a1), (.int nc)])) rfl rfl (hb hby d36_2) _ ?_
    rw [len_of S1 Nn1]
    show Steps _ _ _ (s₁.setTop (mkF m 3 #[.val (.ref a1), .val (.int nc), .unset] [(.int cap), (.int nc)])) _
    refine XS.icmpYes X0.here hx rfl (pc0 := 3) (pc' := 14) rfl (hb hby d36_3) rfl (feq (hA : ¬ (nc = cap))).2 (by decide) (by decide) ?_
    refine XS.iloadN X0.here hx rfl (hb hby d36_14) rfl ?_
    refine st2 _ ?_
    refine XS.astoreN X2.here hx rfl (hb hby d36_17) rfl rfl (l' := #[.val (.ref a1), .val (.int nc), .val (.ref b2)]) rfl ?_
    show Steps _ _ _ (T2.setTop (mkF m 18 #[.val (.ref a1), .val (.int nc), .val (.ref b2)] [])) _
    refine XS.aloadN X2.here hx rfl (hb hby d36_18) rfl rfl ?_
    refine XS.iconst X2.here hx rfl (hb hby d36_19) ?_
    refine XS.aloadN X2.here hx rfl (hb hby d36_20) rfl rfl ?_
    refine XS.iconst X2.here hx rfl (hb hby d36_21) ?_
    show Steps _ _ _ (T2.setTop (mkF m 22 #[.val (.ref a1), .val (.int nc), .val (.ref b2)] [(.int (0 : Int32)), (.ref b2), (.int (0 : Int32)), (.ref a1)])) _
    refine XS.aloadN X2.here hx rfl (hb hby d36_22) rfl rfl ?_
    refine X2.arraylength hx (by rw [e2]; exact Ar3.1) (State.isArrayOf_alike hZ.alike Ar3.2.1) (g := (mkF m 23 #[.val (.ref a1), .val (.int nc), .val (.ref b2)] [(.ref a1), (.int (0 : Int32)), (.ref b2), (.int (0 : Int32)), (.ref a1)])) rfl rfl (hb hby d36_23) _ ?_
    rw [len_of S3 Nn3]
    show Steps _ _ _ (T2.setTop (mkF m 24 #[.val (.ref a1), .val (.int nc), .val (.ref b2)] [(.int cap), (.int (0 : Int32)), (.ref b2), (.int (0 : Int32)), (.ref a1)])) _
    refine XS.iloadN X2.here hx rfl (hb hby d36_24) rfl ?_
    refine st5 _ ?_
    refine st6 _ ?_
    refine XS.aloadN X6.here hx rfl (hb hby d36_31) rfl rfl ?_
    show Steps _ _ _ (T6.setTop (mkF m 32 #[.val (.ref a1), .val (.int nc), .val (.ref b2)] [(.ref b2)])) _
    exact retOut X6 hx Bd.returns rfl (Or.inr (Or.inr (Or.inr (Or.inr ⟨rfl, rfl, rfl⟩)))) (hb hby d36_32) hr
  · show Qown_cpy Z a1 nc k cap vs h0 n0 _ T6.heap _
    rw [e6]
    exact ⟨b2, rfl, N6, K6, g_b2, sz_b2, k2, vs6, by rw [hl6]; simp, Vc6, fc7⟩
theorem d23_0 : decode c23 0 = .ok (.aload_n 0, 1) := by decide +kernel
theorem d23_1 : decode c23 1 = .ok (.getfield 15, 3) := by decide +kernel
theorem d23_4 : decode c23 4 = .ok (.arraylength, 1) := by decide +kernel
theorem d23_5 : decode c23 5 = .ok (.aload_n 0, 1) := by decide +kernel
theorem d23_6 : decode c23 6 = .ok (.getfield 22, 3) := by decide +kernel
theorem d23_9 : decode c23 9 = .ok (.ishr, 1) := by decide +kernel
theorem d23_10 : decode c23 10 = .ok (.istore_n 2, 1) := by decide +kernel
theorem d23_11 : decode c23 11 = .ok (.iload_n 1, 1) := by decide +kernel
theorem d23_12 : decode c23 12 = .ok (.iload_n 2, 1) := by decide +kernel
theorem d23_13 : decode c23 13 = .ok (.isub, 1) := by decide +kernel
theorem d23_14 : decode c23 14 = .ok (.ifCond .le 24, 3) := by decide +kernel
theorem d23_38 : decode c23 38 = .ok (.return_, 1) := by decide +kernel
theorem ef_own_ensN (m : MethodId) (x0 : Addr) (x1 : Int32) : entryFrame m #[(.ref x0), (.int x1)] 3 = mkF m 0 #[.val (.ref x0), .val (.int x1), .unset] [] := by first | (simp [entryFrame, mkF, argsToLocals, Value.category]; done) | rfl
def Qown_ensN (Z : State) (a1 : Addr) (mn : Int32) (b : Addr) (k : ClassId) (cap : Int32) (vs : List Value) (h0 : Heap) (n0 : Nat) (v : Option Value) (h : Heap) (L : List Loc) : Prop := v = none ∧ Fr n0 L ∧ h = h0
theorem own_ensN (l : Launch) (Z : State) (a0 : Array Value) (hw : ∀ d ∈ tables_1, d.before a0 Z = true) (ws : List Jvm.Cond) (a1 : Addr) (mn : Int32) (b : Addr) (k : ClassId) (cap : Int32) (vs : List Value) (h0 : Heap) (n0 : Nat) (Z0 : n0 ≤ h0.size) (F1 : Fld Z h0 a1 "java/lang/AbstractStringBuilder" "value" "[B" (.ref b)) (F2 : Fld Z h0 a1 "java/lang/AbstractStringBuilder" "coder" "B" (.int (0 : Int32))) (V1 : Arv Z h0 b k .byte cap vs (.int (0 : Int32))) (hm : ¬ ((0 : Int32) < (mn - cap))) :
    MetFree l mn17 (head1 (Jvm.Cond.code mn17 jdk_68_method_9_code 3 none :: ws) (⟨0, 0, 0, 0⟩ : Room)) (fun a U => a = #[(.ref a1), (.int mn)] ∧ Z.Warmed39 U.vm ∧ U.heap = h0) (fun _ _ _ _ _ => True) (fun _ U o U' => ∃ v L, o = .returned v ∧ Qown_ensN Z a1 mn b k cap vs h0 n0 v U'.heap L ∧ FrameEnd U o U' L (⟨0, 0, 0, 0⟩ : Room).cells (⟨0, 0, 0, 0⟩ : Room).slots) := by
  refine MetFree.of_bodySF (plainFor_of_name pn_java_lang_AbstractStringBuilder) hisR ?_
  intro p e s m args below meth c s₁ Bd hml0 hP hK
  obtain ⟨rfl, hZ, hh⟩ := hP
  have hx := Bd.exec
  have hby := Bd.bytes
  have hml : c.maxLocals = 3 := hml0
  have hown : s.vm.findClass "java/lang/AbstractStringBuilder" = some m.cls := findClass_of_methodNamed Bd.named
  have hnm := (name_of_methodNamed Bd.named Bd.method).1
  have X0 : Stand p l e (⟨0, 0, 0, 0⟩ : Room) s m #[(.ref a1), (.int mn)] below meth c s₁ [] 0 0 := Stand.of_body Bd
  have e0 : s₁.heap = h0 := by rw [← hh, Bd.state]; rfl
  have N0 := Fr.nil n0
  have pre0 : ∀ t, Steps p.tables e below (s₁.setTop (mkF m 0 #[.val (.ref a1), .val (.int mn), .unset] [])) t → Steps p.tables e below (s₁.setTop (entryFrame m #[(.ref a1), (.int mn)] 3)) t := fun t k => castTop (ef_own_ensN m (a1) (mn)) k
  obtain ⟨T1, X1, e1, st1⟩ := getF X0 hx hZ hown (host := "") (Or.inl (wJ hw 91 rfl)) Via.refl e0 F1 (g := (mkF m 1 #[.val (.ref a1), .val (.int mn), .unset] [(.ref a1)])) rfl rfl (hb hby d23_1)
  obtain ⟨cl2, Ar2, qc2, S2, Nn2, H2, G2⟩ := id V1
  obtain ⟨T3, X3, e3, st3⟩ := getF X1 hx hZ hown (host := "") (Or.inl (wJ hw 93 rfl)) Via.refl e1 F2 (g := (mkF m 6 #[.val (.ref a1), .val (.int mn), .unset] [(.ref a1), (.int cap)])) rfl rfl (hb hby d23_6)
  obtain ⟨fs, hr, hrun, hended, hW, hsame⟩ := X3.leave (v := none) (fun _ => rfl)
  refine ⟨_, _, pre0 _ ?_, hrun, hended, _, _, rfl, ?_, ⟨_, rfl⟩, hW, hsame.mono (by decide) (by decide)⟩
  · show Steps p.tables e below (s₁.setTop (mkF m 0 #[.val (.ref a1), .val (.int mn), .unset] [])) _
    refine XS.aloadN X0.here hx rfl (hb hby d23_0) rfl rfl ?_
    refine st1 _ ?_
    refine X1.arraylength hx (by rw [e1]; exact Ar2.1) (State.isArrayOf_alike hZ.alike Ar2.2.1) (g := (mkF m 4 #[.val (.ref a1), .val (.int mn), .unset] [(.ref b)])) rfl rfl (hb hby d23_4) _ ?_
    rw [len_of S2 Nn2]
    show Steps _ _ _ (T1.setTop (mkF m 5 #[.val (.ref a1), .val (.int mn), .unset] [(.int cap)])) _
    refine XS.aloadN X1.here hx rfl (hb hby d23_5) rfl rfl ?_
    refine st3 _ ?_
    refine XS.ishr X3.here hx rfl (hb hby d23_9) rfl ?_
    show Steps _ _ _ (T3.setTop (mkF m 10 #[.val (.ref a1), .val (.int mn), .unset] [(.int (cap >>> ((0 : Int32) &&& 31)))])) _
    rw [own_shr0]
    show Steps _ _ _ (T3.setTop (mkF m 10 #[.val (.ref a1), .val (.int mn), .unset] [(.int cap)])) _
    refine XS.istoreN X3.here hx rfl (hb hby d23_10) rfl (l' := #[.val (.ref a1), .val (.int mn), .val (.int cap)]) rfl ?_
    refine XS.iloadN X3.here hx rfl (hb hby d23_11) rfl ?_
    refine XS.iloadN X3.here hx rfl (hb hby d23_12) rfl ?_
    refine XS.isub X3.here hx rfl (hb hby d23_13) rfl ?_
    show Steps _ _ _ (T3.setTop (mkF m 14 #[.val (.ref a1), .val (.int mn), .val (.int cap)] [(.int (mn - cap))])) _
    refine XS.ifYes X3.here hx rfl (pc0 := 14) (pc' := 38) rfl (hb hby d23_14) rfl ((if0 _ _).trans (flt (hm : ¬ ((0 : Int32) < (mn - cap)))).2.2.2) (by decide) (by decide) ?_
    show Steps _ _ _ (T3.setTop (mkF m 38 #[.val (.ref a1), .val (.int mn), .val (.int cap)] [])) _
    exact X3.returnOut hx Bd.returns (hb hby d23_38) hr
  · show Qown_ensN Z a1 mn b k cap vs h0 n0 _ T3.heap _
    rw [e3]
    exact ⟨rfl, N0, rfl⟩
theorem d23_17 : decode c23 17 = .ok (.aload_n 0, 1) := by decide +kernel
theorem d23_18 : decode c23 18 = .ok (.aload_n 0, 1) := by decide +kernel
theorem d23_19 : decode c23 19 = .ok (.getfield 15, 3) := by decide +kernel
theorem d23_22 : decode c23 22 = .ok (.aload_n 0, 1) := by decide +kernel
theorem d23_23 : decode c23 23 = .ok (.iload_n 1, 1) := by decide +kernel
theorem d23_24 : decode c23 24 = .ok (.invokevirtual 104, 3) := by decide +kernel
theorem pd__I_I : parseMethodDescriptor "(I)I" = some ⟨[.int], some .int⟩ := by decide +kernel
theorem d23_27 : decode c23 27 = .ok (.aload_n 0, 1) := by decide +kernel
theorem d23_28 : decode c23 28 = .ok (.getfield 22, 3) := by decide +kernel
theorem d23_31 : decode c23 31 = .ok (.ishl, 1) := by decide +kernel
theorem d23_32 : decode c23 32 = .ok (.invokestatic 108, 3) := by decide +kernel
theorem pd___BI__B : parseMethodDescriptor "([BI)[B" = some ⟨[(.array .byte), .int], some (.array .byte)⟩ := by decide +kernel
theorem d23_35 : decode c23 35 = .ok (.putfield 15, 3) := by decide +kernel
theorem ef_own_ensG (m : MethodId) (x0 : Addr) (x1 : Int32) : entryFrame m #[(.ref x0), (.int x1)] 3 = mkF m 0 #[.val (.ref x0), .val (.int x1), .unset] [] := by first | (simp [entryFrame, mkF, argsToLocals, Value.category]; done) | rfl
def Qown_ensG (Z : State) (a1 : Addr) (mn : Int32) (b : Addr) (k : ClassId) (cap : Int32) (vs : List Value) (cnt : Int32) (h0 : Heap) (n0 : Nat) (v : Option Value) (h : Heap) (L : List Loc) : Prop := v = none ∧ Fr n0 L ∧ Keep h0 h [a1] ∧ ∃ (b2 : Addr) (k2 : ClassId) (vs2 : List Value), Fld Z h a1 "java/lang/AbstractStringBuilder" "value" "[B" (.ref b2) ∧ Fld Z h a1 "java/lang/AbstractStringBuilder" "coder" "B" (.int (0 : Int32)) ∧ Fld Z h a1 "java/lang/AbstractStringBuilder" "count" "I" (.int cnt) ∧ Arv Z h b2 k2 .byte (own_nc cap mn) vs2 (.int (0 : Int32)) ∧ vs2.length = (own_nc cap mn).toNatClampNeg ∧ h0.size ≤ b2 ∧ n0 ≤ b2 ∧ a1 ≠ b2 ∧ Exa Z h b2 "[B"
theorem own_ensG (l : Launch) (Z : State) (a0 : Array Value) (hw : ∀ d ∈ tables_1, d.before a0 Z = true) (ws : List Jvm.Cond) (a1 : Addr) (mn : Int32) (b : Addr) (k : ClassId) (cap : Int32) (vs : List Value) (cnt : Int32) (h0 : Heap) (n0 : Nat) (Z0 : n0 ≤ h0.size) (F1 : Fld Z h0 a1 "java/lang/AbstractStringBuilder" "value" "[B" (.ref b)) (F2 : Fld Z h0 a1 "java/lang/AbstractStringBuilder" "coder" "B" (.int (0 : Int32))) (V1 : Arv Z h0 b k .byte cap vs (.int (0 : Int32))) (F3 : Fld Z h0 a1 "java/lang/AbstractStringBuilder" "count" "I" (.int cnt)) (E1 : Exa Z h0 a1 "java/lang/StringBuilder") (g_a1 : n0 ≤ a1) (hne : a1 ≠ b) (hg : own_gr cap mn) :
    MetFree l mn17 (head1 (Jvm.Cond.code mn17 jdk_68_method_9_code 3 none :: ws) (⟨3, 1, 128, 48⟩ : Room)) (fun a U => a = #[(.ref a1), (.int mn)] ∧ Z.Warmed39 U.vm ∧ U.heap = h0) (fun _ _ _ _ _ => True) (fun _ U o U' => ∃ v L, o = .returned v ∧ Qown_ensG Z a1 mn b k cap vs cnt h0 n0 v U'.heap L ∧ FrameEnd U o U' L (⟨3, 1, 128, 48⟩ : Room).cells (⟨3, 1, 128, 48⟩ : Room).slots) := by
  refine MetFree.of_bodySF (plainFor_of_name pn_java_lang_AbstractStringBuilder) hisR ?_
  intro p e s m args below meth c s₁ Bd hml0 hP hK
  obtain ⟨rfl, hZ, hh⟩ := hP
  have hx := Bd.exec
  have hby := Bd.bytes
  have hml : c.maxLocals = 3 := hml0
  have hown : s.vm.findClass "java/lang/AbstractStringBuilder" = some m.cls := findClass_of_methodNamed Bd.named
  have hnm := (name_of_methodNamed Bd.named Bd.method).1
  have X0 : Stand p l e (⟨3, 1, 128, 48⟩ : Room) s m #[(.ref a1), (.int mn)] below meth c s₁ [] 0 0 := Stand.of_body Bd
  have e0 : s₁.heap = h0 := by rw [← hh, Bd.state]; rfl
  have N0 := Fr.nil n0
  have pre0 : ∀ t, Steps p.tables e below (s₁.setTop (mkF m 0 #[.val (.ref a1), .val (.int mn), .unset] [])) t → Steps p.tables e below (s₁.setTop (entryFrame m #[(.ref a1), (.int mn)] 3)) t := fun t k => castTop (ef_own_ensG m (a1) (mn)) k
  obtain ⟨q1, q2, q3, q4, q5, q6, q7, q8, q9⟩ := id hg
  obtain ⟨T1, X1, e1, st1⟩ := getF X0 hx hZ hown (host := "") (Or.inl (wJ hw 91 rfl)) Via.refl e0 F1 (g := (mkF m 1 #[.val (.ref a1), .val (.int mn), .unset] [(.ref a1)])) rfl rfl (hb hby d23_1)
  obtain ⟨cl2, Ar2, qc2, S2, Nn2, H2, G2⟩ := id V1
  obtain ⟨T3, X3, e3, st3⟩ := getF X1 hx hZ hown (host := "") (Or.inl (wJ hw 93 rfl)) Via.refl e1 F2 (g := (mkF m 6 #[.val (.ref a1), .val (.int mn), .unset] [(.ref a1), (.int cap)])) rfl rfl (hb hby d23_6)
  obtain ⟨T4, X4, e4, st4⟩ := getF X3 hx hZ hown (host := "") (Or.inl (wJ hw 91 rfl)) Via.refl e3 F1 (g := (mkF m 19 #[.val (.ref a1), .val (.int mn), .val (.int cap)] [(.ref a1), (.ref a1)])) rfl rfl (hb hby d23_19)
  obtain ⟨cq5, kq5, q5a, q5b, q5c⟩ := isOf hZ e4 E1
  obtain ⟨_, _, ⟨T5, L5, k5, n5⟩, -, X5, ⟨Lc5, hQ5, l5, y5, z5⟩, st5⟩ := X4.virtualBack hx (y := mn22) (z := mn22) hown (mvT hZ (wJ hw 231 rfl)) (mvT hZ (own_decl (wJ hw 232 rfl) (wJ hw 235 rfl))) (notFace_of_selects (args := #[]) (mvT hZ (wJ hw 234 rfl))) (mvT hZ (wJ hw 234 rfl)) (mvT hZ (wJ hw 232 rfl)) (by decide) (backOf (W := 2) (own_newCap l Z a0 hw [] a1 mn b k cap vs h0 n0 Z0 F1 F2 V1 hg) hZ (wJ hw 235 rfl) (wJ hw 87 rfl) (by decide) (by decide)) q5a q5c (g := (mkF m 24 #[.val (.ref a1), .val (.int mn), .val (.int cap)] [(.int mn), (.ref a1), (.ref b), (.ref a1)])) rfl (by rw [hml]; rfl) (Steps.refl _) (argsL := [(.int mn)]) (rest := [(.ref b), (.ref a1)]) (lenOf pd__I_I rfl) rfl (by show 2 * 0 + _ ≤ _; exact Nat.le_of_eq rfl) (hb hby d23_24) (fun _ _ => ⟨rfl, e4, (by decide : 0 + 0 ≤ _), (by decide : 0 + 0 ≤ _)⟩)
  dsimp only [Pt.U, Pt.locs, Pt.cells, Pt.slots] at X5 l5 y5 z5 st5 hQ5
  replace X5 := X5.more (Nat.le_of_eq (show k5 = 0 from y5)) (Nat.le_of_eq (show n5 = 0 from z5))
  obtain ⟨rfl, Nq5, e5⟩ := hQ5
  have N5 : Fr n0 L5 := by rw [l5]; exact Fr.app N0 Nq5
  obtain ⟨T6, X6, e6, st6⟩ := getF X5 hx hZ hown (host := "") (Or.inl (wJ hw 93 rfl)) Via.refl e5 F2 (g := (mkF m 28 #[.val (.ref a1), .val (.int mn), .val (.int cap)] [(.ref a1), (.int (own_nc cap mn)), (.ref b), (.ref a1)])) rfl rfl (hb hby d23_28)
  obtain ⟨_, _, ⟨T7, L7, k7, n7⟩, -, X7, ⟨Lc7, hQ7, l7, y7, z7⟩, st7⟩ := Jvm.LawKit.callS X6 hx (y := mn46) hown (mvT hZ (wJ hw 246 rfl)) (mvT hZ (wJ hw 247 rfl)) (mvT hZ (wJ hw 248 rfl)) (mvT hZ (wJ hw 249 rfl)) (by decide) (backOf (W := 1) (own_cpy l Z a0 hw [] b (own_nc cap mn) k cap vs h0 n0 Z0 V1 q4 q5 q6 q7 q9) hZ (wJ hw 249 rfl) (wJ hw 248 rfl) (by decide) (by decide)) (g := (mkF m 32 #[.val (.ref a1), .val (.int mn), .val (.int cap)] [(.int (own_nc cap mn)), (.ref b), (.ref a1)])) rfl (by rw [hml]; rfl) (argsL := [(.ref b), (.int (own_nc cap mn))]) (rest := [(.ref a1)]) (lenOf pd___BI__B rfl) rfl (by show 2 * 0 + _ ≤ _; exact Nat.le_of_eq rfl) (hb hby d23_32) (fun _ _ => ⟨rfl, e6, (by decide : 0 + 1 ≤ _), (by decide : 0 + 128 ≤ _)⟩)
  dsimp only [Pt.U, Pt.locs, Pt.cells, Pt.slots] at X7 l7 y7 z7 st7 hQ7
  replace X7 := X7.more (Nat.le_of_eq (show k7 = 1 from y7)) (Nat.le_of_eq (show n7 = 128 from z7))
  obtain ⟨b2, rfl, Nq7, Kq7, g_b2, sb2, k2, vs2, hl2, V2, Ex2⟩ := hQ7
  have Z7 : n0 ≤ T7.heap.size := Nat.le_trans Z0 Kq7.1
  have K7 : Keep h0 T7.heap [a1] := (Keep.refl h0 [a1]).trans Kq7 all0
  have N7 : Fr n0 L7 := by rw [l7]; exact Fr.app N5 Nq7
  have ne2 : a1 ≠ b2 := Nat.ne_of_lt (Nat.lt_of_lt_of_le E1.lt sb2)
  have fc9 := (F1.keep Kq7 nin0)
  have fc10 := (E1.keep Kq7)
  obtain ⟨T8, h8, X8, e8, W8, st8⟩ := putF X7 hx hZ hown (host := "") (Or.inl (wJ hw 91 rfl)) Via.refl rfl fc9 fc10 (Or.inl (wJ hw 92 rfl)) (wJ hw 78 rfl) (ty := (.array .byte)) (by decide) rfl rfl (g := (mkF m 35 #[.val (.ref a1), .val (.int mn), .val (.int cap)] [(.ref b2), (.ref a1)])) rfl rfl (hb hby d23_35)
  have Fw8 := fc9.same W8
  have K8 : Keep h0 h8 [a1] := K7.wr W8 (Or.inl (wI 0 rfl))
  have N8 := Fr.snoc X8 N7 g_a1
  have Z8 : n0 ≤ h8.size := Nat.le_trans Z7 (Keep.of_wr W8).1
  have fc11 := ((F2.keep Kq7 nin0).other W8 (Or.inr (slot_ne (Or.inl (wJ hw 94 rfl)) (Or.inl (wJ hw 92 rfl)) (by decide) (t := .byte) (t' := (.array .byte)) (by decide) (by decide))))
  have fc12 := ((F3.keep Kq7 nin0).other W8 (Or.inr (slot_ne (Or.inl (wJ hw 167 rfl)) (Or.inl (wJ hw 92 rfl)) (by decide) (t := .int) (t' := (.array .byte)) (by decide) (by decide))))
  have fc13 := (V2.other W8 (Ne.symm ne2))
  have fc14 := (Ex2.wr W8)
  obtain ⟨fs, hr, hrun, hended, hW, hsame⟩ := X8.leave (v := none) (fun _ => rfl)
  refine ⟨_, _, pre0 _ ?_, hrun, hended, _, _, rfl, ?_, ⟨_, rfl⟩, hW, hsame.mono (by decide) (by decide)⟩
  · show Steps p.tables e below (s₁.setTop (mkF m 0 #[.val (.ref a1), .val (.int mn), .unset] [])) _
    refine XS.aloadN X0.here hx rfl (hb hby d23_0) rfl rfl ?_
    refine st1 _ ?_
    refine X1.arraylength hx (by rw [e1]; exact Ar2.1) (State.isArrayOf_alike hZ.alike Ar2.2.1) (g := (mkF m 4 #[.val (.ref a1), .val (.int mn), .unset] [(.ref b)])) rfl rfl (hb hby d23_4) _ ?_
    rw [len_of S2 Nn2]
    show Steps _ _ _ (T1.setTop (mkF m 5 #[.val (.ref a1), .val (.int mn), .unset] [(.int cap)])) _
    refine XS.aloadN X1.here hx rfl (hb hby d23_5) rfl rfl ?_
    refine st3 _ ?_
    refine XS.ishr X3.here hx rfl (hb hby d23_9) rfl ?_
    show Steps _ _ _ (T3.setTop (mkF m 10 #[.val (.ref a1), .val (.int mn), .unset] [(.int (cap >>> ((0 : Int32) &&& 31)))])) _
    rw [own_shr0]
    show Steps _ _ _ (T3.setTop (mkF m 10 #[.val (.ref a1), .val (.int mn), .unset] [(.int cap)])) _
    refine XS.istoreN X3.here hx rfl (hb hby d23_10) rfl (l' := #[.val (.ref a1), .val (.int mn), .val (.int cap)]) rfl ?_
    refine XS.iloadN X3.here hx rfl (hb hby d23_11) rfl ?_
    refine XS.iloadN X3.here hx rfl (hb hby d23_12) rfl ?_
    refine XS.isub X3.here hx rfl (hb hby d23_13) rfl ?_
    show Steps _ _ _ (T3.setTop (mkF m 14 #[.val (.ref a1), .val (.int mn), .val (.int cap)] [(.int (mn - cap))])) _
    refine XS.ifNo X3.here hx rfl (hb hby d23_14) rfl ((if0 _ _).trans (tlt (q8 : (0 : Int32) < (mn - cap))).2.2.2) ?_
    refine XS.aloadN X3.here hx rfl (hb hby d23_17) rfl rfl ?_
    refine XS.aloadN X3.here hx rfl (hb hby d23_18) rfl rfl ?_
    refine st4 _ ?_
    show Steps _ _ _ (T4.setTop (mkF m 22 #[.val (.ref a1), .val (.int mn), .val (.int cap)] [(.ref b), (.ref a1)])) _
    refine XS.aloadN X4.here hx rfl (hb hby d23_22) rfl rfl ?_
    refine XS.iloadN X4.here hx rfl (hb hby d23_23) rfl ?_
    refine st5.trans ?_
    refine XS.aloadN X5.here hx rfl (hb hby d23_27) rfl rfl ?_
    show Steps _ _ _ (T5.setTop (mkF m 28 #[.val (.ref a1), .val (.int mn), .val (.int cap)] [(.ref a1), (.int (own_nc cap mn)), (.ref b), (.ref a1)])) _
    refine st6 _ ?_
    refine XS.ishl X6.here hx rfl (hb hby d23_31) rfl ?_
    show Steps _ _ _ (T6.setTop (mkF m 32 #[.val (.ref a1), .val (.int mn), .val (.int cap)] [(.int ((own_nc cap mn) <<< ((0 : Int32) &&& 31))), (.ref b), (.ref a1)])) _
    rw [own_shl0]
    show Steps _ _ _ (T6.setTop (mkF m 32 #[.val (.ref a1), .val (.int mn), .val (.int cap)] [(.int (own_nc cap mn)), (.ref b), (.ref a1)])) _
    refine st7 _ ?_
    refine st8 _ ?_
    show Steps _ _ _ (T8.setTop (mkF m 38 #[.val (.ref a1), .val (.int mn), .val (.int cap)] [])) _
    exact X8.returnOut hx Bd.returns (hb hby d23_38) hr
  · show Qown_ensG Z a1 mn b k cap vs cnt h0 n0 _ T8.heap _
    rw [e8]
    exact ⟨rfl, N8, K8, b2, k2, vs2, Fw8, fc11, fc12, fc13, hl2, sb2, g_b2, ne2, fc14⟩
theorem d20_0 : decode c20 0 = .ok (.aload_n 1, 1) := by decide +kernel
theorem d20_1 : decode c20 1 = .ok (.ifnonnull 8, 3) := by decide +kernel
theorem d20_9 : decode c20 9 = .ok (.aload_n 1, 1) := by decide +kernel
theorem d20_10 : decode c20 10 = .ok (.invokevirtual 32, 3) := by decide +kernel
theorem pd___I : parseMethodDescriptor "()I" = some ⟨[], some .int⟩ := by decide +kernel
theorem d20_13 : decode c20 13 = .ok (.istore_n 2, 1) := by decide +kernel
theorem d20_14 : decode c20 14 = .ok (.aload_n 0, 1) := by decide +kernel
theorem d20_15 : decode c20 15 = .ok (.aload_n 0, 1) := by decide +kernel
theorem d20_16 : decode c20 16 = .ok (.getfield 79, 3) := by decide +kernel
theorem d20_19 : decode c20 19 = .ok (.iload_n 2, 1) := by decide +kernel
theorem d20_20 : decode c20 20 = .ok (.iadd, 1) := by decide +kernel
theorem d20_21 : decode c20 21 = .ok (.invokevirtual 100, 3) := by decide +kernel
theorem pd__I_V : parseMethodDescriptor "(I)V" = some ⟨[.int], none⟩ := by decide +kernel
theorem d20_24 : decode c20 24 = .ok (.aload_n 0, 1) := by decide +kernel
theorem d20_25 : decode c20 25 = .ok (.aload_n 0, 1) := by decide +kernel
theorem d20_26 : decode c20 26 = .ok (.getfield 79, 3) := by decide +kernel
theorem d20_29 : decode c20 29 = .ok (.aload_n 1, 1) := by decide +kernel
theorem d20_30 : decode c20 30 = .ok (.invokevirtual 208, 3) := by decide +kernel
theorem pd__ILjava_lang_String__V : parseMethodDescriptor "(ILjava/lang/String;)V" = some ⟨[.int, (.object "java/lang/String")], none⟩ := by decide +kernel
theorem d20_33 : decode c20 33 = .ok (.aload_n 0, 1) := by decide +kernel
theorem d20_34 : decode c20 34 = .ok (.dup, 1) := by decide +kernel
theorem d20_35 : decode c20 35 = .ok (.getfield 79, 3) := by decide +kernel
theorem d20_38 : decode c20 38 = .ok (.iload_n 2, 1) := by decide +kernel
theorem d20_39 : decode c20 39 = .ok (.iadd, 1) := by decide +kernel
theorem d20_40 : decode c20 40 = .ok (.putfield 79, 3) := by decide +kernel
theorem d20_43 : decode c20 43 = .ok (.aload_n 0, 1) := by decide +kernel
theorem d20_44 : decode c20 44 = .ok (.areturn, 1) := by decide +kernel
theorem ef_own_appN (m : MethodId) (x0 : Addr) (x1 : Addr) : entryFrame m #[(.ref x0), (.ref x1)] 3 = mkF m 0 #[.val (.ref x0), .val (.ref x1), .unset] [] := by first | (simp [entryFrame, mkF, argsToLocals, Value.category]; done) | rfl
def Qown_appN (Z : State) (a1 : Addr) (a2 : Addr) (cap : Int32) (cnt : Int32) (z : Int32) (cs : Int32) (nb : Nat) (h0 : Heap) (n0 : Nat) (v : Option Value) (h : Heap) (L : List Loc) : Prop := v = some (.ref a1) ∧ Fr n0 L ∧ own_W nb h0 h ∧ own_sb Z h nb a1 cap (cnt + z)
theorem own_appN (l : Launch) (Z : State) (a0 : Array Value) (hw : ∀ d ∈ tables_1, d.before a0 Z = true) (ws : List Jvm.Cond) (a1 : Addr) (a2 : Addr) (cap : Int32) (cnt : Int32) (z : Int32) (cs : Int32) (nb : Nat) (h0 : Heap) (n0 : Nat) (Z0 : n0 ≤ h0.size) (B1 : own_sb Z h0 nb a1 cap cnt) (S1 : own_str Z h0 a2 z) (hn1 : n0 ≤ nb) (hn2 : nb ≤ h0.size) (hc0 : ¬ cnt < 0) (hpz : cnt.toNatClampNeg + z.toNatClampNeg ≤ (cap).toNatClampNeg) (hm : ¬ ((0 : Int32) < ((cnt + z) - cap))) (SC : own_S Z h0 nb "java/lang/String" "COMPACT_STRINGS" "Z" (.int cs)) (hcs : ¬ (cs = (0 : Int32))) :
    MetFree l mn16 (head1 (Jvm.Cond.code mn16 jdk_68_method_22_code 3 (some (.object "java/lang/AbstractStringBuilder")) :: ws) (⟨3, 0, 0, 47⟩ : Room)) (fun a U => a = #[(.ref a1), (.ref a2)] ∧ Z.Warmed39 U.vm ∧ U.heap = h0) (fun _ _ _ _ _ => True) (fun _ U o U' => ∃ v L, o = .returned v ∧ Qown_appN Z a1 a2 cap cnt z cs nb h0 n0 v U'.heap L ∧ FrameEnd U o U' L (⟨3, 0, 0, 47⟩ : Room).cells (⟨3, 0, 0, 47⟩ : Room).slots) := by
  refine MetFree.of_bodySF (plainFor_of_name pn_java_lang_AbstractStringBuilder) hisR ?_
  intro p e s m args below meth c s₁ Bd hml0 hP hK
  obtain ⟨rfl, hZ, hh⟩ := hP
  have hx := Bd.exec
  have hby := Bd.bytes
  have hml : c.maxLocals = 3 := hml0
  have hown : s.vm.findClass "java/lang/AbstractStringBuilder" = some m.cls := findClass_of_methodNamed Bd.named
  have hnm := (name_of_methodNamed Bd.named Bd.method).1
  have X0 : Stand p l e (⟨3, 0, 0, 47⟩ : Room) s m #[(.ref a1), (.ref a2)] below meth c s₁ [] 0 0 := Stand.of_body Bd
  have e0 : s₁.heap = h0 := by rw [← hh, Bd.state]; rfl
  have N0 := Fr.nil n0
  have pre0 : ∀ t, Steps p.tables e below (s₁.setTop (mkF m 0 #[.val (.ref a1), .val (.ref a2), .unset] [])) t → Steps p.tables e below (s₁.setTop (entryFrame m #[(.ref a1), (.ref a2)] 3)) t := fun t k => castTop (ef_own_appN m (a1) (a2)) k
  obtain ⟨b, k, vs, E1, F1, F2, F3, V1, hlb, w_a1, w_b, hne, Eb⟩ := B1
  obtain ⟨bs, ks, vss, Es, G1, G2, V2, hls⟩ := id S1
  have g_a1 := Nat.le_trans hn1 w_a1
  have g_b := Nat.le_trans hn1 w_b
  have ne_t : a2 ≠ a1 := Exa.ne Es E1 (by decide)
  have ne_s : bs ≠ a1 := Ne.symm (Exa.neArv E1 V2 (wJ hw 78 rfl))
  obtain ⟨cq1, kq1, q1a, q1b, q1c⟩ := isOf hZ e0 Es
  obtain ⟨_, _, ⟨T1, L1, k1, n1⟩, -, X1, ⟨Lc1, hQ1, l1, y1, z1⟩, st1⟩ := X0.virtualBack hx (y := mn35) (z := mn35) hown (mvT hZ (wJ hw 156 rfl)) (mvT hZ (wJ hw 157 rfl)) (notFace_of_selects (args := #[]) (mvT hZ (wJ hw 159 rfl))) (mvT hZ (wJ hw 159 rfl)) (mvT hZ (wJ hw 158 rfl)) (by decide) (backOf (W := 0) (own_length l Z a0 hw [] a2 z cs nb h0 n0 Z0 S1 SC hcs) hZ (wJ hw 160 rfl) (wJ hw 2 rfl) (by decide) (by decide)) q1a q1c (g := (mkF m 10 #[.val (.ref a1), .val (.ref a2), .unset] [(.ref a2)])) rfl (by rw [hml]; rfl) (Steps.refl _) (argsL := []) (rest := []) (lenOf pd___I rfl) rfl (by show 2 * 0 + _ ≤ _; exact Nat.le_of_eq rfl) (hb hby d20_10) (fun _ _ => ⟨rfl, e0, (by decide : 0 + 0 ≤ _), (by decide : 0 + 0 ≤ _)⟩)
  dsimp only [Pt.U, Pt.locs, Pt.cells, Pt.slots] at X1 l1 y1 z1 st1 hQ1
  replace X1 := X1.more (Nat.le_of_eq (show k1 = 0 from y1)) (Nat.le_of_eq (show n1 = 0 from z1))
  obtain ⟨rfl, Nq1, e1⟩ := hQ1
  have N1 : Fr n0 L1 := by rw [l1]; exact Fr.app N0 Nq1
  obtain ⟨T2, X2, e2, st2⟩ := getF X1 hx hZ hown (host := "") (Or.inl (wJ hw 166 rfl)) Via.refl e1 F3 (g := (mkF m 16 #[.val (.ref a1), .val (.ref a2), .val (.int z)] [(.ref a1), (.ref a1)])) rfl rfl (hb hby d20_16)
  obtain ⟨cq3, kq3, q3a, q3b, q3c⟩ := isOf hZ e2 E1
  obtain ⟨_, _, ⟨T3, L3, k3, n3⟩, -, X3, ⟨Lc3, hQ3, l3, y3, z3⟩, st3⟩ := X2.virtualBack hx (y := mn17) (z := mn17) hown (mvT hZ (wJ hw 168 rfl)) (mvT hZ (own_decl (wJ hw 169 rfl) (wJ hw 172 rfl))) (notFace_of_selects (args := #[]) (mvT hZ (wJ hw 171 rfl))) (mvT hZ (wJ hw 171 rfl)) (mvT hZ (wJ hw 169 rfl)) (by decide) (backOf (W := 0) (own_ensN l Z a0 hw [] a1 (cnt + z) b k cap vs h0 n0 Z0 F1 F2 V1 hm) hZ (wJ hw 172 rfl) (wJ hw 87 rfl) (by decide) (by decide)) q3a q3c (g := (mkF m 21 #[.val (.ref a1), .val (.ref a2), .val (.int z)] [(.int (cnt + z)), (.ref a1)])) rfl (by rw [hml]; rfl) (Steps.refl _) (argsL := [(.int (cnt + z))]) (rest := []) (lenOf pd__I_V rfl) rfl (by show 2 * 0 + _ ≤ _; exact Nat.le_of_eq rfl) (hb hby d20_21) (fun _ _ => ⟨rfl, e2, (by decide : 0 + 0 ≤ _), (by decide : 0 + 0 ≤ _)⟩)
  dsimp only [Pt.U, Pt.locs, Pt.cells, Pt.slots] at X3 l3 y3 z3 st3 hQ3
  replace X3 := X3.more (Nat.le_of_eq (show k3 = 0 from y3)) (Nat.le_of_eq (show n3 = 0 from z3))
  obtain ⟨rfl, Nq3, e3⟩ := hQ3
  have N3 : Fr n0 L3 := by rw [l3]; exact Fr.app N1 Nq3
  obtain ⟨T4, X4, e4, st4⟩ := getF X3 hx hZ hown (host := "") (Or.inl (wJ hw 166 rfl)) Via.refl e3 F3 (g := (mkF m 26 #[.val (.ref a1), .val (.ref a2), .val (.int z)] [(.ref a1), (.ref a1)])) rfl rfl (hb hby d20_26)
  obtain ⟨cq5, kq5, q5a, q5b, q5c⟩ := isOf hZ e4 E1
  obtain ⟨_, _, ⟨T5, L5, k5, n5⟩, -, X5, ⟨Lc5, hQ5, l5, y5, z5⟩, st5⟩ := X4.virtualBack hx (y := mn23) (z := mn23) hown (mvT hZ (wJ hw 173 rfl)) (mvT hZ (own_decl (wJ hw 174 rfl) (wJ hw 177 rfl))) (notFace_of_selects (args := #[]) (mvT hZ (wJ hw 176 rfl))) (mvT hZ (wJ hw 176 rfl)) (mvT hZ (wJ hw 174 rfl)) (by decide) (backOf (W := 0) (own_putS l Z a0 hw [] a1 cnt a2 z cap b k vs cs nb h0 n0 Z0 F1 F2 E1 S1 V1 hlb g_b hc0 hpz SC hcs) hZ (wJ hw 177 rfl) (wJ hw 87 rfl) (by decide) (by decide)) q5a q5c (g := (mkF m 30 #[.val (.ref a1), .val (.ref a2), .val (.int z)] [(.ref a2), (.int cnt), (.ref a1)])) rfl (by rw [hml]; rfl) (Steps.refl _) (argsL := [(.int cnt), (.ref a2)]) (rest := []) (lenOf pd__ILjava_lang_String__V rfl) rfl (by show 2 * 0 + _ ≤ _; exact Nat.le_of_eq rfl) (hb hby d20_30) (fun _ _ => ⟨rfl, e4, (by decide : 0 + 0 ≤ _), (by decide : 0 + 0 ≤ _)⟩)
  dsimp only [Pt.U, Pt.locs, Pt.cells, Pt.slots] at X5 l5 y5 z5 st5 hQ5
  replace X5 := X5.more (Nat.le_of_eq (show k5 = 0 from y5)) (Nat.le_of_eq (show n5 = 0 from z5))
  obtain ⟨rfl, Nq5, Kq5, vd2, hv2, V3⟩ := hQ5
  have Z5 : n0 ≤ T5.heap.size := Nat.le_trans Z0 Kq5.1
  have K5 : Keep h0 T5.heap [a1, b] := (Keep.refl h0 [a1, b]).trans Kq5 (allS (Or.inl (wI 1 rfl)) all0)
  have N5 : Fr n0 L5 := by rw [l5]; exact Fr.app N3 Nq5
  have fc7 := (F3.keep Kq5 (ninS hne nin0))
  obtain ⟨T6, X6, e6, st6⟩ := getF X5 hx hZ hown (host := "") (Or.inl (wJ hw 166 rfl)) Via.refl rfl fc7 (g := (mkF m 35 #[.val (.ref a1), .val (.ref a2), .val (.int z)] [(.ref a1), (.ref a1)])) rfl rfl (hb hby d20_35)
  have fc9 := (E1.keep Kq5)
  obtain ⟨T8, h8, X8, e8, W8, st8⟩ := putF X6 hx hZ hown (host := "") (Or.inl (wJ hw 166 rfl)) Via.refl e6 fc7 fc9 (Or.inl (wJ hw 167 rfl)) (wJ hw 78 rfl) (ty := .int) (by decide) rfl rfl (g := (mkF m 40 #[.val (.ref a1), .val (.ref a2), .val (.int z)] [(.int (cnt + z)), (.ref a1)])) rfl rfl (hb hby d20_40)
  have Fw8 := fc7.same W8
  have K8 : Keep h0 h8 [a1, b] := K5.wr W8 (Or.inl (wI 0 rfl))
  have N8 := Fr.snoc X8 N5 g_a1
  have Z8 : n0 ≤ h8.size := Nat.le_trans Z5 (Keep.of_wr W8).1
  have fc10 := (fc9.wr W8)
  have fc11 := ((F1.keep Kq5 (ninS hne nin0)).other W8 (Or.inr (slot_ne (Or.inl (wJ hw 92 rfl)) (Or.inl (wJ hw 167 rfl)) (by decide) (t := (.array .byte)) (t' := .int) (by decide) (by decide))))
  have fc12 := ((F2.keep Kq5 (ninS hne nin0)).other W8 (Or.inr (slot_ne (Or.inl (wJ hw 94 rfl)) (Or.inl (wJ hw 167 rfl)) (by decide) (t := .byte) (t' := .int) (by decide) (by decide))))
  have fc13 := (V3.other W8 (Ne.symm hne))
  have fc14 := ((Eb.keep Kq5).wr W8)
  obtain ⟨fs, hr, hrun, hended, hW, hsame⟩ := X8.leave (v := some (.ref a1)) (fun h => by rw [Bd.returns] at h; cases h)
  refine ⟨_, _, pre0 _ ?_, hrun, hended, _, _, rfl, ?_, ⟨_, rfl⟩, hW, hsame.mono (by decide) (by decide)⟩
  · show Steps p.tables e below (s₁.setTop (mkF m 0 #[.val (.ref a1), .val (.ref a2), .unset] [])) _
    refine XS.aloadN X0.here hx rfl (hb hby d20_0) rfl rfl ?_
    refine XS.ifnonnullYes X0.here hx rfl (pc0 := 1) (pc' := 9) rfl (hb hby d20_1) rfl (by decide) (by decide) ?_
    refine XS.aloadN X0.here hx rfl (hb hby d20_9) rfl rfl ?_
    refine st1.trans ?_
    show Steps _ _ _ (T1.setTop (mkF m 13 #[.val (.ref a1), .val (.ref a2), .unset] [(.int z)])) _
    refine XS.istoreN X1.here hx rfl (hb hby d20_13) rfl (l' := #[.val (.ref a1), .val (.ref a2), .val (.int z)]) rfl ?_
    refine XS.aloadN X1.here hx rfl (hb hby d20_14) rfl rfl ?_
    refine XS.aloadN X1.here hx rfl (hb hby d20_15) rfl rfl ?_
    refine st2 _ ?_
    show Steps _ _ _ (T2.setTop (mkF m 19 #[.val (.ref a1), .val (.ref a2), .val (.int z)] [(.int cnt), (.ref a1)])) _
    refine XS.iloadN X2.here hx rfl (hb hby d20_19) rfl ?_
    refine XS.iadd X2.here hx rfl (hb hby d20_20) rfl ?_
    refine st3.trans ?_
    refine XS.aloadN X3.here hx rfl (hb hby d20_24) rfl rfl ?_
    show Steps _ _ _ (T3.setTop (mkF m 25 #[.val (.ref a1), .val (.ref a2), .val (.int z)] [(.ref a1)])) _
    refine XS.aloadN X3.here hx rfl (hb hby d20_25) rfl rfl ?_
    refine st4 _ ?_
    refine XS.aloadN X4.here hx rfl (hb hby d20_29) rfl rfl ?_
    refine st5.trans ?_
    show Steps _ _ _ (T5.setTop (mkF m 33 #[.val (.ref a1), .val (.ref a2), .val (.int z)] [])) _
    refine XS.aloadN X5.here hx rfl (hb hby d20_33) rfl rfl ?_
    refine XS.dup X5.here hx rfl (hb hby d20_34) rfl rfl ?_
    refine st6 _ ?_
    refine XS.iloadN X6.here hx rfl (hb hby d20_38) rfl ?_
    show Steps _ _ _ (T6.setTop (mkF m 39 #[.val (.ref a1), .val (.ref a2), .val (.int z)] [(.int z), (.int cnt), (.ref a1)])) _
    refine XS.iadd X6.here hx rfl (hb hby d20_39) rfl ?_
    refine st8 _ ?_
    refine XS.aloadN X8.here hx rfl (hb hby d20_43) rfl rfl ?_
    show Steps _ _ _ (T8.setTop (mkF m 44 #[.val (.ref a1), .val (.ref a2), .val (.int z)] [(.ref a1)])) _
    exact retOut X8 hx Bd.returns rfl (Or.inr (Or.inr (Or.inr (Or.inr ⟨rfl, rfl, rfl⟩)))) (hb hby d20_44) hr
  · show Qown_appN Z a1 a2 cap cnt z cs nb h0 n0 _ T8.heap _
    rw [e8]
    exact ⟨rfl, N8, ⟨_, K8, (allS w_a1 (allS w_b all0))⟩, b, k, vd2, fc10, fc11, fc12, Fw8, fc13, hv2, w_a1, w_b, hne, fc14⟩
theorem d19_0 : decode c19 0 = .ok (.aload_n 0, 1) := by decide +kernel
theorem d19_1 : decode c19 1 = .ok (.aload_n 1, 1) := by decide +kernel
theorem d19_2 : decode c19 2 = .ok (.invokespecial 29, 3) := by decide +kernel
theorem pd__Ljava_lang_String__Ljava_lang_AbstractStringBuilder_ : parseMethodDescriptor "(Ljava/lang/String;)Ljava/lang/AbstractStringBuilder;" = some ⟨[(.object "java/lang/String")], some (.object "java/lang/AbstractStringBuilder")⟩ := by decide +kernel
theorem d19_5 : decode c19 5 = .ok (.pop, 1) := by decide +kernel
theorem d19_6 : decode c19 6 = .ok (.aload_n 0, 1) := by decide +kernel
theorem d19_7 : decode c19 7 = .ok (.areturn, 1) := by decide +kernel
theorem pn_java_lang_StringBuilder : plainName "java/lang/StringBuilder" = true := by first | (simp [plainName, overriddenIn]; done) | decide +kernel
theorem ef_own_sbSN (m : MethodId) (x0 : Addr) (x1 : Addr) : entryFrame m #[(.ref x0), (.ref x1)] 2 = mkF m 0 #[.val (.ref x0), .val (.ref x1)] [] := by first | (simp [entryFrame, mkF, argsToLocals, Value.category]; done) | rfl
def Qown_sbSN (Z : State) (a1 : Addr) (a2 : Addr) (cap : Int32) (cnt : Int32) (z : Int32) (cs : Int32) (nb : Nat) (h0 : Heap) (n0 : Nat) (v : Option Value) (h : Heap) (L : List Loc) : Prop := v = some (.ref a1) ∧ Fr n0 L ∧ own_W nb h0 h ∧ own_sb Z h nb a1 cap (cnt + z)
theorem own_sbSN (l : Launch) (Z : State) (a0 : Array Value) (hw : ∀ d ∈ tables_1, d.before a0 Z = true) (ws : List Jvm.Cond) (a1 : Addr) (a2 : Addr) (cap : Int32) (cnt : Int32) (z : Int32) (cs : Int32) (nb : Nat) (h0 : Heap) (n0 : Nat) (Z0 : n0 ≤ h0.size) (B1 : own_sb Z h0 nb a1 cap cnt) (S1 : own_str Z h0 a2 z) (hn1 : n0 ≤ nb) (hn2 : nb ≤ h0.size) (hc0 : ¬ cnt < 0) (hpz : cnt.toNatClampNeg + z.toNatClampNeg ≤ (cap).toNatClampNeg) (hm : ¬ ((0 : Int32) < ((cnt + z) - cap))) (SC : own_S Z h0 nb "java/lang/String" "COMPACT_STRINGS" "Z" (.int cs)) (hcs : ¬ (cs = (0 : Int32))) :
    MetFree l mn39 (head1 (Jvm.Cond.code mn39 jdk_67_method_7_code 2 (some (.object "java/lang/StringBuilder")) :: ws) (⟨4, 0, 0, 61⟩ : Room)) (fun a U => a = #[(.ref a1), (.ref a2)] ∧ Z.Warmed39 U.vm ∧ U.heap = h0) (fun _ _ _ _ _ => True) (fun _ U o U' => ∃ v L, o = .returned v ∧ Qown_sbSN Z a1 a2 cap cnt z cs nb h0 n0 v U'.heap L ∧ FrameEnd U o U' L (⟨4, 0, 0, 61⟩ : Room).cells (⟨4, 0, 0, 61⟩ : Room).slots) := by
  refine MetFree.of_bodySF (plainFor_of_name pn_java_lang_StringBuilder) hisR ?_
  intro p e s m args below meth c s₁ Bd hml0 hP hK
  obtain ⟨rfl, hZ, hh⟩ := hP
  have hx := Bd.exec
  have hby := Bd.bytes
  have hml : c.maxLocals = 2 := hml0
  have hown : s.vm.findClass "java/lang/StringBuilder" = some m.cls := findClass_of_methodNamed Bd.named
  have hnm := (name_of_methodNamed Bd.named Bd.method).1
  have X0 : Stand p l e (⟨4, 0, 0, 61⟩ : Room) s m #[(.ref a1), (.ref a2)] below meth c s₁ [] 0 0 := Stand.of_body Bd
  have e0 : s₁.heap = h0 := by rw [← hh, Bd.state]; rfl
  have N0 := Fr.nil n0
  have pre0 : ∀ t, Steps p.tables e below (s₁.setTop (mkF m 0 #[.val (.ref a1), .val (.ref a2)] [])) t → Steps p.tables e below (s₁.setTop (entryFrame m #[(.ref a1), (.ref a2)] 2)) t := fun t k => castTop (ef_own_sbSN m (a1) (a2)) k
  have E1 : Exa Z h0 a1 "java/lang/StringBuilder" := by obtain ⟨_, _, _, e, _⟩ := B1; exact e
  obtain ⟨_, _, ⟨T1, L1, k1, n1⟩, -, X1, ⟨Lc1, hQ1, l1, y1, z1⟩, st1⟩ := superBack X0 hx hZ (y := mn16) hown (wJ hw 151 rfl) (own_same (wJ hw 219 rfl) (wJ hw 155 rfl) rfl (by decide)) (wJ hw 152 rfl) (wJ hw 153 rfl) (by decide) (backOf (W := 0) (own_appN l Z a0 hw [] a1 a2 cap cnt z cs nb h0 n0 Z0 B1 S1 hn1 hn2 hc0 hpz hm SC hcs) hZ (wJ hw 155 rfl) (wJ hw 87 rfl) (by decide) (by decide)) e0 (Ins.self E1) (g := (mkF m 2 #[.val (.ref a1), .val (.ref a2)] [(.ref a2), (.ref a1)])) rfl (by rw [hml]; rfl) (wJ hw 155 rfl) (argsL := [(.ref a2)]) (rest := []) (lenOf pd__Ljava_lang_String__Ljava_lang_AbstractStringBuilder_ rfl) rfl (by show 2 * 0 + _ ≤ _; exact Nat.le_of_eq rfl) (hb hby d19_2) (fun _ _ => ⟨rfl, e0, (by decide : 0 + 0 ≤ _), (by decide : 0 + 0 ≤ _)⟩)
  dsimp only [Pt.U, Pt.locs, Pt.cells, Pt.slots] at X1 l1 y1 z1 st1 hQ1
  replace X1 := X1.more (Nat.le_of_eq (show k1 = 0 from y1)) (Nat.le_of_eq (show n1 = 0 from z1))
  obtain ⟨rfl, Nq1, Wq1, B2⟩ := hQ1
  have Z1 : n0 ≤ T1.heap.size := Nat.le_trans Z0 Wq1.size
  have N1 : Fr n0 L1 := by rw [l1]; exact Fr.app N0 Nq1
  obtain ⟨fs, hr, hrun, hended, hW, hsame⟩ := X1.leave (v := some (.ref a1)) (fun h => by rw [Bd.returns] at h; cases h)
  refine ⟨_, _, pre0 _ ?_, hrun, hended, _, _, rfl, ?_, ⟨_, rfl⟩, hW, hsame.mono (by decide) (by decide)⟩
  · show Steps p.tables e below (s₁.setTop (mkF m 0 #[.val (.ref a1), .val (.ref a2)] [])) _
    refine XS.aloadN X0.here hx rfl (hb hby d19_0) rfl rfl ?_
    refine XS.aloadN X0.here hx rfl (hb hby d19_1) rfl rfl ?_
    refine st1.trans ?_
    refine XS.pop X1.here hx rfl (hb hby d19_5) rfl rfl ?_
    show Steps _ _ _ (T1.setTop (mkF m 6 #[.val (.ref a1), .val (.ref a2)] [])) _
    refine XS.aloadN X1.here hx rfl (hb hby d19_6) rfl rfl ?_
    show Steps _ _ _ (T1.setTop (mkF m 7 #[.val (.ref a1), .val (.ref a2)] [(.ref a1)])) _
    exact retOut X1 hx Bd.returns rfl (Or.inr (Or.inr (Or.inr (Or.inr ⟨rfl, rfl, rfl⟩)))) (hb hby d19_7) hr
  · show Qown_sbSN Z a1 a2 cap cnt z cs nb h0 n0 _ T1.heap _
    exact ⟨rfl, N1, Wq1, B2⟩
theorem ef_own_appG (m : MethodId) (x0 : Addr) (x1 : Addr) : entryFrame m #[(.ref x0), (.ref x1)] 3 = mkF m 0 #[.val (.ref x0), .val (.ref x1), .unset] [] := by first | (simp [entryFrame, mkF, argsToLocals, Value.category]; done) | rfl
def Qown_appG (Z : State) (a1 : Addr) (a2 : Addr) (cap : Int32) (cnt : Int32) (z : Int32) (cs : Int32) (nb : Nat) (h0 : Heap) (n0 : Nat) (v : Option Value) (h : Heap) (L : List Loc) : Prop := v = some (.ref a1) ∧ Fr n0 L ∧ own_W nb h0 h ∧ own_sb Z h nb a1 (own_nc cap (cnt + z)) (cnt + z)
theorem own_appG (l : Launch) (Z : State) (a0 : Array Value) (hw : ∀ d ∈ tables_1, d.before a0 Z = true) (ws : List Jvm.Cond) (a1 : Addr) (a2 : Addr) (cap : Int32) (cnt : Int32) (z : Int32) (cs : Int32) (nb : Nat) (h0 : Heap) (n0 : Nat) (Z0 : n0 ≤ h0.size) (B1 : own_sb Z h0 nb a1 cap cnt) (S1 : own_str Z h0 a2 z) (hn1 : n0 ≤ nb) (hn2 : nb ≤ h0.size) (hc0 : ¬ cnt < 0) (hpz : cnt.toNatClampNeg + z.toNatClampNeg ≤ ((own_nc cap (cnt + z))).toNatClampNeg) (hg : own_gr cap (cnt + z)) (SC : own_S Z h0 nb "java/lang/String" "COMPACT_STRINGS" "Z" (.int cs)) (hcs : ¬ (cs = (0 : Int32))) :
    MetFree l mn16 (head1 (Jvm.Cond.code mn16 jdk_68_method_22_code 3 (some (.object "java/lang/AbstractStringBuilder")) :: ws) (⟨4, 1, 128, 62⟩ : Room)) (fun a U => a = #[(.ref a1), (.ref a2)] ∧ Z.Warmed39 U.vm ∧ U.heap = h0) (fun _ _ _ _ _ => True) (fun _ U o U' => ∃ v L, o = .returned v ∧ Qown_appG Z a1 a2 cap cnt z cs nb h0 n0 v U'.heap L ∧ FrameEnd U o U' L (⟨4, 1, 128, 62⟩ : Room).cells (⟨4, 1, 128, 62⟩ : Room).slots) := by
  refine MetFree.of_bodySF (plainFor_of_name pn_java_lang_AbstractStringBuilder) hisR ?_
  intro p e s m args below meth c s₁ Bd hml0 hP hK
  obtain ⟨rfl, hZ, hh⟩ := hP
  have hx := Bd.exec
  have hby := Bd.bytes
  have hml : c.maxLocals = 3 := hml0
  have hown : s.vm.findClass "java/lang/AbstractStringBuilder" = some m.cls := findClass_of_methodNamed Bd.named
  have hnm := (name_of_methodNamed Bd.named Bd.method).1
  have X0 : Stand p l e (⟨4, 1, 128, 62⟩ : Room) s m #[(.ref a1), (.ref a2)] below meth c s₁ [] 0 0 := Stand.of_body Bd
  have e0 : s₁.heap = h0 := by rw [← hh, Bd.state]; rfl
  have N0 := Fr.nil n0
  have pre0 : ∀ t, Steps p.tables e below (s₁.setTop (mkF m 0 #[.val (.ref a1), .val (.ref a2), .unset] [])) t → Steps p.tables e below (s₁.setTop (entryFrame m #[(.ref a1), (.ref a2)] 3)) t := fun t k => castTop (ef_own_appG m (a1) (a2)) k
  obtain ⟨b, k, vs, E1, F1, F2, F3, V1, hlb, w_a1, w_b, hne, Eb⟩ := B1
  obtain ⟨bs, ks, vss, Es, G1, G2, V2, hls⟩ := id S1
  have g_a1 := Nat.le_trans hn1 w_a1
  have g_b := Nat.le_trans hn1 w_b
  have ne_t : a2 ≠ a1 := Exa.ne Es E1 (by decide)
  have ne_s : bs ≠ a1 := Ne.symm (Exa.neArv E1 V2 (wJ hw 78 rfl))
  obtain ⟨cq1, kq1, q1a, q1b, q1c⟩ := isOf hZ e0 Es
  obtain ⟨_, _, ⟨T1, L1, k1, n1⟩, -, X1, ⟨Lc1, hQ1, l1, y1, z1⟩, st1⟩ := X0.virtualBack hx (y := mn35) (z := mn35) hown (mvT hZ (wJ hw 156 rfl)) (mvT hZ (wJ hw 157 rfl)) (notFace_of_selects (args := #[]) (mvT hZ (wJ hw 159 rfl))) (mvT hZ (wJ hw 159 rfl)) (mvT hZ (wJ hw 158 rfl)) (by decide) (backOf (W := 0) (own_length l Z a0 hw [] a2 z cs nb h0 n0 Z0 S1 SC hcs) hZ (wJ hw 160 rfl) (wJ hw 2 rfl) (by decide) (by decide)) q1a q1c (g := (mkF m 10 #[.val (.ref a1), .val (.ref a2), .unset] [(.ref a2)])) rfl (by rw [hml]; rfl) (Steps.refl _) (argsL := []) (rest := []) (lenOf pd___I rfl) rfl (by show 2 * 0 + _ ≤ _; exact Nat.le_of_eq rfl) (hb hby d20_10) (fun _ _ => ⟨rfl, e0, (by decide : 0 + 0 ≤ _), (by decide : 0 + 0 ≤ _)⟩)
  dsimp only [Pt.U, Pt.locs, Pt.cells, Pt.slots] at X1 l1 y1 z1 st1 hQ1
  replace X1 := X1.more (Nat.le_of_eq (show k1 = 0 from y1)) (Nat.le_of_eq (show n1 = 0 from z1))
  obtain ⟨rfl, Nq1, e1⟩ := hQ1
  have N1 : Fr n0 L1 := by rw [l1]; exact Fr.app N0 Nq1
  obtain ⟨T2, X2, e2, st2⟩ := getF X1 hx hZ hown (host := "") (Or.inl (wJ hw 166 rfl)) Via.refl e1 F3 (g := (mkF m 16 #[.val (.ref a1), .val (.ref a2), .val (.int z)] [(.ref a1), (.ref a1)])) rfl rfl (hb hby d20_16)
  obtain ⟨cq3, kq3, q3a, q3b, q3c⟩ := isOf hZ e2 E1
  obtain ⟨_, _, ⟨T3, L3, k3, n3⟩, -, X3, ⟨Lc3, hQ3, l3, y3, z3⟩, st3⟩ := X2.virtualBack hx (y := mn17) (z := mn17) hown (mvT hZ (wJ hw 168 rfl)) (mvT hZ (own_decl (wJ hw 169 rfl) (wJ hw 172 rfl))) (notFace_of_selects (args := #[]) (mvT hZ (wJ hw 171 rfl))) (mvT hZ (wJ hw 171 rfl)) (mvT hZ (wJ hw 169 rfl)) (by decide) (backOf (W := 0) (own_ensG l Z a0 hw [] a1 (cnt + z) b k cap vs cnt h0 n0 Z0 F1 F2 V1 F3 E1 g_a1 hne hg) hZ (wJ hw 172 rfl) (wJ hw 87 rfl) (by decide) (by decide)) q3a q3c (g := (mkF m 21 #[.val (.ref a1), .val (.ref a2), .val (.int z)] [(.int (cnt + z)), (.ref a1)])) rfl (by rw [hml]; rfl) (Steps.refl _) (argsL := [(.int (cnt + z))]) (rest := []) (lenOf pd__I_V rfl) rfl (by show 2 * 0 + _ ≤ _; exact Nat.le_of_eq rfl) (hb hby d20_21) (fun _ _ => ⟨rfl, e2, (by decide : 0 + 1 ≤ _), (by decide : 0 + 128 ≤ _)⟩)
  dsimp only [Pt.U, Pt.locs, Pt.cells, Pt.slots] at X3 l3 y3 z3 st3 hQ3
  replace X3 := X3.more (Nat.le_of_eq (show k3 = 1 from y3)) (Nat.le_of_eq (show n3 = 128 from z3))
  obtain ⟨rfl, Nq3, Kq3, b2, k2, vs2, F1b, F2b, F3b, V1b, hl2, sb2, g_b2, ne2, Ex2⟩ := hQ3
  have Z3 : n0 ≤ T3.heap.size := Nat.le_trans Z0 Kq3.1
  have K3 : Keep h0 T3.heap [a1] := (Keep.refl h0 [a1]).trans Kq3 (allS (Or.inl (wI 0 rfl)) all0)
  have N3 : Fr n0 L3 := by rw [l3]; exact Fr.app N1 Nq3
  have sz_b2 : h0.size ≤ b2 := sb2
  have fc4 := (Es.keep Kq3)
  have fc5 := (G1.keep Kq3 (ninS ne_t nin0))
  have fc6 := (G2.keep Kq3 (ninS ne_t nin0))
  have fc7 := (V2.keep Kq3 (ninS ne_s nin0))
  have S1b : own_str Z T3.heap a2 z := ⟨bs, ks, vss, fc4, fc5, fc6, fc7, hls⟩
  have SCb := own_S.W SC ⟨_, K3, allS w_a1 all0⟩
  obtain ⟨T8, X8, e8, st8⟩ := getF X3 hx hZ hown (host := "") (Or.inl (wJ hw 166 rfl)) Via.refl rfl F3b (g := (mkF m 26 #[.val (.ref a1), .val (.ref a2), .val (.int z)] [(.ref a1), (.ref a1)])) rfl rfl (hb hby d20_26)
  have fc9 := (E1.keep Kq3)
  obtain ⟨cq10, kq10, q10a, q10b, q10c⟩ := isOf hZ e8 fc9
  obtain ⟨_, _, ⟨T10, L10, k10, n10⟩, -, X10, ⟨Lc10, hQ10, l10, y10, z10⟩, st10⟩ := X8.virtualBack hx (y := mn23) (z := mn23) hown (mvT hZ (wJ hw 173 rfl)) (mvT hZ (own_decl (wJ hw 174 rfl) (wJ hw 177 rfl))) (notFace_of_selects (args := #[]) (mvT hZ (wJ hw 176 rfl))) (mvT hZ (wJ hw 176 rfl)) (mvT hZ (wJ hw 174 rfl)) (by decide) (backOf (W := 0) (own_putS l Z a0 hw [] a1 cnt a2 z (own_nc cap (cnt + z)) b2 k2 vs2 cs nb T3.heap n0 Z3 F1b F2b fc9 S1b V1b hl2 g_b2 hc0 hpz SCb hcs) hZ (wJ hw 177 rfl) (wJ hw 87 rfl) (by decide) (by decide)) q10a q10c (g := (mkF m 30 #[.val (.ref a1), .val (.ref a2), .val (.int z)] [(.ref a2), (.int cnt), (.ref a1)])) rfl (by rw [hml]; rfl) (Steps.refl _) (argsL := [(.int cnt), (.ref a2)]) (rest := []) (lenOf pd__ILjava_lang_String__V rfl) rfl (by show 2 * 0 + _ ≤ _; exact Nat.le_of_eq rfl) (hb hby d20_30) (fun _ _ => ⟨rfl, e8, (by decide : 1 + 0 ≤ _), (by decide : 128 + 0 ≤ _)⟩)
  dsimp only [Pt.U, Pt.locs, Pt.cells, Pt.slots] at X10 l10 y10 z10 st10 hQ10
  replace X10 := X10.more (Nat.le_of_eq (show k10 = 1 from y10)) (Nat.le_of_eq (show n10 = 128 from z10))
  obtain ⟨rfl, Nq10, Kq10, vd2, hv2, V3⟩ := hQ10
  have Z10 : n0 ≤ T10.heap.size := Nat.le_trans Z3 Kq10.1
  have K10 : Keep h0 T10.heap [a1] := K3.trans Kq10 (allS (Or.inr sz_b2) all0)
  have N10 : Fr n0 L10 := by rw [l10]; exact Fr.app N3 Nq10
  have fc12 := (F3b.keep Kq10 (ninS ne2 nin0))
  obtain ⟨T11, X11, e11, st11⟩ := getF X10 hx hZ hown (host := "") (Or.inl (wJ hw 166 rfl)) Via.refl rfl fc12 (g := (mkF m 35 #[.val (.ref a1), .val (.ref a2), .val (.int z)] [(.ref a1), (.ref a1)])) rfl rfl (hb hby d20_35)
  have fc14 := (fc9.keep Kq10)
  obtain ⟨T13, h13, X13, e13, W13, st13⟩ := putF X11 hx hZ hown (host := "") (Or.inl (wJ hw 166 rfl)) Via.refl e11 fc12 fc14 (Or.inl (wJ hw 167 rfl)) (wJ hw 78 rfl) (ty := .int) (by decide) rfl rfl (g := (mkF m 40 #[.val (.ref a1), .val (.ref a2), .val (.int z)] [(.int (cnt + z)), (.ref a1)])) rfl rfl (hb hby d20_40)
  have Fw13 := fc12.same W13
  have K13 : Keep h0 h13 [a1] := K10.wr W13 (Or.inl (wI 0 rfl))
  have N13 := Fr.snoc X13 N10 g_a1
  have Z13 : n0 ≤ h13.size := Nat.le_trans Z10 (Keep.of_wr W13).1
  have fc15 := (fc14.wr W13)
  have fc16 := ((F1b.keep Kq10 (ninS ne2 nin0)).other W13 (Or.inr (slot_ne (Or.inl (wJ hw 92 rfl)) (Or.inl (wJ hw 167 rfl)) (by decide) (t := (.array .byte)) (t' := .int) (by decide) (by decide))))
  have fc17 := ((F2b.keep Kq10 (ninS ne2 nin0)).other W13 (Or.inr (slot_ne (Or.inl (wJ hw 94 rfl)) (Or.inl (wJ hw 167 rfl)) (by decide) (t := .byte) (t' := .int) (by decide) (by decide))))
  have fc18 := (V3.other W13 (Ne.symm ne2))
  have fc19 := ((Ex2.keep Kq10).wr W13)
  obtain ⟨fs, hr, hrun, hended, hW, hsame⟩ := X13.leave (v := some (.ref a1)) (fun h => by rw [Bd.returns] at h; cases h)
  refine ⟨_, _, pre0 _ ?_, hrun, hended, _, _, rfl, ?_, ⟨_, rfl⟩, hW, hsame.mono (by decide) (by decide)⟩
  · show Steps p.tables e below (s₁.setTop (mkF m 0 #[.val (.ref a1), .val (.ref a2), .unset] [])) _
    refine XS.aloadN X0.here hx rfl (hb hby d20_0) rfl rfl ?_
    refine XS.ifnonnullYes X0.here hx rfl (pc0 := 1) (pc' := 9) rfl (hb hby d20_1) rfl (by decide) (by decide) ?_
    refine XS.aloadN X0.here hx rfl (hb hby d20_9) rfl rfl ?_
    refine st1.trans ?_
    show Steps _ _ _ (T1.setTop (mkF m 13 #[.val (.ref a1), .val (.ref a2), .unset] [(.int z)])) _
    refine XS.istoreN X1.here hx rfl (hb hby d20_13) rfl (l' := #[.val (.ref a1), .val (.ref a2), .val (.int z)]) rfl ?_
    refine XS.aloadN X1.here hx rfl (hb hby d20_14) rfl rfl ?_
    refine XS.aloadN X1.here hx rfl (hb hby d20_15) rfl rfl ?_
    refine st2 _ ?_
    show Steps _ _ _ (T2.setTop (mkF m 19 #[.val (.ref a1), .val (.ref a2), .val (.int z)] [(.int cnt), (.ref a1)])) _
    refine XS.iloadN X2.here hx rfl (hb hby d20_19) rfl ?_
    refine XS.iadd X2.here hx rfl (hb hby d20_20) rfl ?_
    refine st3.trans ?_
    refine XS.aloadN X3.here hx rfl (hb hby d20_24) rfl rfl ?_
    show Steps _ _ _ (T3.setTop (mkF m 25 #[.val (.ref a1), .val (.ref a2), .val (.int z)] [(.ref a1)])) _
    refine XS.aloadN X3.here hx rfl (hb hby d20_25) rfl rfl ?_
    refine st8 _ ?_
    refine XS.aloadN X8.here hx rfl (hb hby d20_29) rfl rfl ?_
    refine st10.trans ?_
    show Steps _ _ _ (T10.setTop (mkF m 33 #[.val (.ref a1), .val (.ref a2), .val (.int z)] [])) _
    refine XS.aloadN X10.here hx rfl (hb hby d20_33) rfl rfl ?_
    refine XS.dup X10.here hx rfl (hb hby d20_34) rfl rfl ?_
    refine st11 _ ?_
    refine XS.iloadN X11.here hx rfl (hb hby d20_38) rfl ?_
    show Steps _ _ _ (T11.setTop (mkF m 39 #[.val (.ref a1), .val (.ref a2), .val (.int z)] [(.int z), (.int cnt), (.ref a1)])) _
    refine XS.iadd X11.here hx rfl (hb hby d20_39) rfl ?_
    refine st13 _ ?_
    refine XS.aloadN X13.here hx rfl (hb hby d20_43) rfl rfl ?_
    show Steps _ _ _ (T13.setTop (mkF m 44 #[.val (.ref a1), .val (.ref a2), .val (.int z)] [(.ref a1)])) _
    exact retOut X13 hx Bd.returns rfl (Or.inr (Or.inr (Or.inr (Or.inr ⟨rfl, rfl, rfl⟩)))) (hb hby d20_44) hr
  · show Qown_appG Z a1 a2 cap cnt z cs nb h0 n0 _ T13.heap _
    rw [e13]
    exact ⟨rfl, N13, ⟨_, K13, (allS w_a1 all0)⟩, b2, k2, vd2, fc15, fc16, fc17, Fw13, fc18, hv2, w_a1, (Nat.le_trans hn2 sb2), ne2, fc19⟩
theorem ef_own_sbSG (m : MethodId) (x0 : Addr) (x1 : Addr) : entryFrame m #[(.ref x0), (.ref x1)] 2 = mkF m 0 #[.val (.ref x0), .val (.ref x1)] [] := by first | (simp [entryFrame, mkF, argsToLocals, Value.category]; done) | rfl
def Qown_sbSG (Z : State) (a1 : Addr) (a2 : Addr) (cap : Int32) (cnt : Int32) (z : Int32) (cs : Int32) (nb : Nat) (h0 : Heap) (n0 : Nat) (v : Option Value) (h : Heap) (L : List Loc) : Prop := v = some (.ref a1) ∧ Fr n0 L ∧ own_W nb h0 h ∧ own_sb Z h nb a1 (own_nc cap (cnt + z)) (cnt + z)
theorem own_sbSG (l : Launch) (Z : State) (a0 : Array Value) (hw : ∀ d ∈ tables_1, d.before a0 Z = true) (ws : List Jvm.Cond) (a1 : Addr) (a2 : Addr) (cap : Int32) (cnt : Int32) (z : Int32) (cs : Int32) (nb : Nat) (h0 : Heap) (n0 : Nat) (Z0 : n0 ≤ h0.size) (B1 : own_sb Z h0 nb a1 cap cnt) (S1 : own_str Z h0 a2 z) (hn1 : n0 ≤ nb) (hn2 : nb ≤ h0.size) (hc0 : ¬ cnt < 0) (hpz : cnt.toNatClampNeg + z.toNatClampNeg ≤ ((own_nc cap (cnt + z))).toNatClampNeg) (hg : own_gr cap (cnt + z)) (SC : own_S Z h0 nb "java/lang/String" "COMPACT_STRINGS" "Z" (.int cs)) (hcs : ¬ (cs = (0 : Int32))) :
    MetFree l mn39 (head1 (Jvm.Cond.code mn39 jdk_67_method_7_code 2 (some (.object "java/lang/StringBuilder")) :: ws) (⟨5, 1, 128, 76⟩ : Room)) (fun a U => a = #[(.ref a1), (.ref a2)] ∧ Z.Warmed39 U.vm ∧ U.heap = h0) (fun _ _ _ _ _ => True) (fun _ U o U' => ∃ v L, o = .returned v ∧ Qown_sbSG Z a1 a2 cap cnt z cs nb h0 n0 v U'.heap L ∧ FrameEnd U o U' L (⟨5, 1, 128, 76⟩ : Room).cells (⟨5, 1, 128, 76⟩ : Room).slots) := by
  refine MetFree.of_bodySF (plainFor_of_name pn_java_lang_StringBuilder) hisR ?_
  intro p e s m args below meth c s₁ Bd hml0 hP hK
  obtain ⟨rfl, hZ, hh⟩ := hP
  have hx := Bd.exec
  have hby := Bd.bytes
  have hml : c.maxLocals = 2 := hml0
  have hown : s.vm.findClass "java/lang/StringBuilder" = some m.cls := findClass_of_methodNamed Bd.named
  have hnm := (name_of_methodNamed Bd.named Bd.method).1
  have X0 : Stand p l e (⟨5, 1, 128, 76⟩ : Room) s m #[(.ref a1), (.ref a2)] below meth c s₁ [] 0 0 := Stand.of_body Bd
  have e0 : s₁.heap = h0 := by rw [← hh, Bd.state]; rfl
  have N0 := Fr.nil n0
  have pre0 : ∀ t, Steps p.tables e below (s₁.setTop (mkF m 0 #[.val (.ref a1), .val (.ref a2)] [])) t → Steps p.tables e below (s₁.setTop (entryFrame m #[(.ref a1), (.ref a2)] 2)) t := fun t k => castTop (ef_own_sbSG m (a1) (a2)) k
  have E1 : Exa Z h0 a1 "java/lang/StringBuilder" := by obtain ⟨_, _, _, e, _⟩ := B1; exact e
  obtain ⟨_, _, ⟨T1, L1, k1, n1⟩, -, X1, ⟨Lc1, hQ1, l1, y1, z1⟩, st1⟩ := superBack X0 hx hZ (y := mn16) hown (wJ hw 151 rfl) (own_same (wJ hw 219 rfl) (wJ hw 155 rfl) rfl (by decide)) (wJ hw 152 rfl) (wJ hw 153 rfl) (by decide) (backOf (W := 0) (own_appG l Z a0 hw [] a1 a2 cap cnt z cs nb h0 n0 Z0 B1 S1 hn1 hn2 hc0 hpz hg SC hcs) hZ (wJ hw 155 rfl) (wJ hw 87 rfl) (by decide) (by decide)) e0 (Ins.self E1) (g := (mkF m 2 #[.val (.ref a1), .val (.ref a2)] [(.ref a2), (.ref a1)])) rfl (by rw [hml]; rfl) (wJ hw 155 rfl) (argsL := [(.ref a2)]) (rest := []) (lenOf pd__Ljava_lang_String__Ljava_lang_AbstractStringBuilder_ rfl) rfl (by show 2 * 0 + _ ≤ _; exact Nat.le_of_eq rfl) (hb hby d19_2) (fun _ _ => ⟨rfl, e0, (by decide : 0 + 1 ≤ _), (by decide : 0 + 128 ≤ _)⟩)
  dsimp only [Pt.U, Pt.locs, Pt.cells, Pt.slots] at X1 l1 y1 z1 st1 hQ1
  replace X1 := X1.more (Nat.le_of_eq (show k1 = 1 from y1)) (Nat.le_of_eq (show n1 = 128 from z1))
  obtain ⟨rfl, Nq1, Wq1, B2⟩ := hQ1
  have Z1 : n0 ≤ T1.heap.size := Nat.le_trans Z0 Wq1.size
  have N1 : Fr n0 L1 := by rw [l1]; exact Fr.app N0 Nq1
  obtain ⟨fs, hr, hrun, hended, hW, hsame⟩ := X1.leave (v := some (.ref a1)) (fun h => by rw [Bd.returns] at h; cases h)
  refine ⟨_, _, pre0 _ ?_, hrun, hended, _, _, rfl, ?_, ⟨_, rfl⟩, hW, hsame.mono (by decide) (by decide)⟩
  · show Steps p.tables e below (s₁.setTop (mkF m 0 #[.val (.ref a1), .val (.ref a2)] [])) _
    refine XS.aloadN X0.here hx rfl (hb hby d19_0) rfl rfl ?_
    refine XS.aloadN X0.here hx rfl (hb hby d19_1) rfl rfl ?_
    refine st1.trans ?_
    refine XS.pop X1.here hx rfl (hb hby d19_5) rfl rfl ?_
    show Steps _ _ _ (T1.setTop (mkF m 6 #[.val (.ref a1), .val (.ref a2)] [])) _
    refine XS.aloadN X1.here hx rfl (hb hby d19_6) rfl rfl ?_
    show Steps _ _ _ (T1.setTop (mkF m 7 #[.val (.ref a1), .val (.ref a2)] [(.ref a1)])) _
    exact retOut X1 hx Bd.returns rfl (Or.inr (Or.inr (Or.inr (Or.inr ⟨rfl, rfl, rfl⟩)))) (hb hby d19_7) hr
  · show Qown_sbSG Z a1 a2 cap cnt z cs nb h0 n0 _ T1.heap _
    exact ⟨rfl, N1, Wq1, B2⟩
theorem d11_0 : decode c11 0 = .ok (.aload_n 0, 1) := by decide +kernel
theorem d11_1 : decode c11 1 = .ok (.invokespecial 3, 3) := by decide +kernel
theorem d11_4 : decode c11 4 = .ok (.getstatic 18, 3) := by decide +kernel
theorem d11_7 : decode c11 7 = .ok (.ifCond .eq 18, 3) := by decide +kernel
theorem d11_10 : decode c11 10 = .ok (.aload_n 0, 1) := by decide +kernel
theorem d11_11 : decode c11 11 = .ok (.iload_n 1, 1) := by decide +kernel
theorem d11_12 : decode c11 12 = .ok (.newarray .byte, 2) := by decide +kernel
theorem d11_14 : decode c11 14 = .ok (.putfield 15, 3) := by decide +kernel
theorem d11_17 : decode c11 17 = .ok (.aload_n 0, 1) := by decide +kernel
theorem d11_18 : decode c11 18 = .ok (.iconst 0, 1) := by decide +kernel
theorem d11_19 : decode c11 19 = .ok (.putfield 22, 3) := by decide +kernel
theorem d11_22 : decode c11 22 = .ok (.goto 16, 3) := by decide +kernel
theorem d11_38 : decode c11 38 = .ok (.return_, 1) := by decide +kernel
theorem ef_own_asb (m : MethodId) (x0 : Addr) (x1 : Int32) : entryFrame m #[(.ref x0), (.int x1)] 2 = mkF m 0 #[.val (.ref x0), .val (.int x1)] [] := by first | (simp [entryFrame, mkF, argsToLocals, Value.category]; done) | rfl
def Qown_asb (Z : State) (a1 : Addr) (cs : Int32) (nb : Nat) (h0 : Heap) (n0 : Nat) (v : Option Value) (h : Heap) (L : List Loc) : Prop := v = none ∧ Fr n0 L ∧ Keep h0 h [a1] ∧ own_sb Z h nb a1 (16 : Int32) (0 : Int32)
theorem own_asb (l : Launch) (Z : State) (a0 : Array Value) (hw : ∀ d ∈ tables_1, d.before a0 Z = true) (ws : List Jvm.Cond) (a1 : Addr) (cs : Int32) (nb : Nat) (h0 : Heap) (n0 : Nat) (Z0 : n0 ≤ h0.size) (F1 : Fld Z h0 a1 "java/lang/AbstractStringBuilder" "value" "[B" .null) (F2 : Fld Z h0 a1 "java/lang/AbstractStringBuilder" "coder" "B" (.int (0 : Int32))) (F3 : Fld Z h0 a1 "java/lang/AbstractStringBuilder" "count" "I" (.int (0 : Int32))) (E1 : Exa Z h0 a1 "java/lang/StringBuilder") (w_a1 : nb ≤ a1) (hn1 : n0 ≤ nb) (hn2 : nb ≤ h0.size) (SC : own_S Z h0 nb "java/lang/String" "COMPACT_STRINGS" "Z" (.int cs)) (hcs : ¬ (cs = (0 : Int32))) :
    MetFree l mn14 (head1 (Jvm.Cond.code mn14 jdk_68_method_2_code 2 none :: ws) (⟨1, 1, 16, 12⟩ : Room)) (fun a U => a = #[(.ref a1), (.int (16 : Int32))] ∧ Z.Warmed39 U.vm ∧ U.heap = h0) (fun _ _ _ _ _ => True) (fun _ U o U' => ∃ v L, o = .returned v ∧ Qown_asb Z a1 cs nb h0 n0 v U'.heap L ∧ FrameEnd U o U' L (⟨1, 1, 16, 12⟩ : Room).cells (⟨1, 1, 16, 12⟩ : Room).slots) := by
  refine MetFree.of_bodySF (plainFor_of_name pn_java_lang_AbstractStringBuilder) hisR ?_
  intro p e s m args below meth c s₁ Bd hml0 hP hK
  obtain ⟨rfl, hZ, hh⟩ := hP
  have hx := Bd.exec
  have hby := Bd.bytes
  have hml : c.maxLocals = 2 := hml0
  have hown : s.vm.findClass "java/lang/AbstractStringBuilder" = some m.cls := findClass_of_methodNamed Bd.named
  have hnm := (name_of_methodNamed Bd.named Bd.method).1
  have X0 : Stand p l e (⟨1, 1, 16, 12⟩ : Room) s m #[(.ref a1), (.int (16 : Int32))] below meth c s₁ [] 0 0 := Stand.of_body Bd
  have e0 : s₁.heap = h0 := by rw [← hh, Bd.state]; rfl
  have N0 := Fr.nil n0
  have pre0 : ∀ t, Steps p.tables e below (s₁.setTop (mkF m 0 #[.val (.ref a1), .val (.int (16 : Int32))] [])) t → Steps p.tables e below (s₁.setTop (entryFrame m #[(.ref a1), (.int (16 : Int32))] 2)) t := fun t k => castTop (ef_own_asb m (a1) ((16 : Int32))) k
  have g_a1 := Nat.le_trans hn1 w_a1
  obtain ⟨T1, X1, e1, st1⟩ := initO X0 hx hZ hown (wJ hw 89 rfl) (wJ hw 20 rfl) (wJ hw 21 rfl) e0 (g := (mkF m 1 #[.val (.ref a1), .val (.int (16 : Int32))] [(.ref a1)])) rfl (by rw [hml]; rfl) rfl (hb hby d11_1) (by decide) (W := 0) (by show 2 * 0 + _ ≤ _; exact Nat.le_of_eq rfl) (by decide)
  obtain ⟨T2, X2, e2, st2⟩ := getS2 X1 hx hZ hown (host := "") (Or.inl (wJ hw 90 rfl)) Via.refl e1 SC.sta (g := (mkF m 4 #[.val (.ref a1), .val (.int (16 : Int32))] [])) rfl (hb hby d11_4)
  obtain ⟨T3, h3, k3, X3, e3, E3, A3, Ax3, st3⟩ := newPE X2 hx hZ (wJ hw 14 rfl) e2 (g := (mkF m 12 #[.val (.ref a1), .val (.int (16 : Int32))] [(.int (16 : Int32)), (.ref a1)])) rfl (hb hby d11_12) rfl (by decide) (cap := 16) (by decide) (by decide) (by decide) (by decide) (ad := "[B") (by decide)
  obtain ⟨b3, g3⟩ : ∃ z, z = h0.size := ⟨_, rfl⟩
  rw [← g3] at A3 Ax3 st3
  have V3 : Arv Z h3 b3 k3 .byte (16 : Int32) [(.int (0 : Int32)), (.int (0 : Int32)), (.int (0 : Int32)), (.int (0 : Int32)), (.int (0 : Int32)), (.int (0 : Int32)), (.int (0 : Int32)), (.int (0 : Int32)), (.int (0 : Int32)), (.int (0 : Int32)), (.int (0 : Int32)), (.int (0 : Int32)), (.int (0 : Int32)), (.int (0 : Int32)), (.int (0 : Int32)), (.int (0 : Int32))] (.int (0 : Int32)) := (Arv.new A3 (by decide)).pad (pad_rep [] (.int (0 : Int32)) 16)
  have g_b3 : n0 ≤ b3 := Nat.le_trans Z0 (Nat.le_of_eq g3.symm)
  have sz_b3 : h0.size ≤ b3 := Nat.le_trans (Keep.refl h0 [a1]).1 (Nat.le_of_eq g3.symm)
  have Z3 : n0 ≤ h3.size := Nat.le_trans Z0 E3.1
  have K3 : Keep h0 h3 [a1] := (Keep.refl h0 [a1]).ext E3
  have fc5 := (F1.ext E3)
  have fc6 := (E1.ext E3)
  obtain ⟨T4, h4, X4, e4, W4, st4⟩ := putF X3 hx hZ hown (host := "") (Or.inl (wJ hw 91 rfl)) Via.refl e3 fc5 fc6 (Or.inl (wJ hw 92 rfl)) (wJ hw 78 rfl) (ty := (.array .byte)) (by decide) rfl rfl (g := (mkF m 14 #[.val (.ref a1), .val (.int (16 : Int32))] [(.ref b3), (.ref a1)])) rfl rfl (hb hby d11_14)
  have Fw4 := fc5.same W4
  have K4 : Keep h0 h4 [a1] := K3.wr W4 (Or.inl (wI 0 rfl))
  have N4 := Fr.snoc X4 N0 g_a1
  have Z4 : n0 ≤ h4.size := Nat.le_trans Z3 (Keep.of_wr W4).1
  have fc8 := ((F2.ext E3).other W4 (Or.inr (slot_ne (Or.inl (wJ hw 94 rfl)) (Or.inl (wJ hw 92 rfl)) (by decide) (t := .byte) (t' := (.array .byte)) (by decide) (by decide))))
  have fc9 := (fc6.wr W4)
  obtain ⟨T7, h7, X7, e7, W7, st7⟩ := putFN X4 hx hZ hown (wJ hw 93 rfl) Via.refl e4 fc8 fc9 (Or.inl (wJ hw 94 rfl)) (wJ hw 78 rfl) (ty := .byte) (v' := (.int (0 : Int32))) (by decide) rfl (rfl) (g := (mkF m 19 #[.val (.ref a1), .val (.int (16 : Int32))] [(.int (0 : Int32)), (.ref a1)])) rfl rfl (hb hby d11_19)
  have Fw7 := fc8.same W7
  have K7 : Keep h0 h7 [a1] := K4.wr W7 (Or.inl (wI 0 rfl))
  have N7 := Fr.snoc X7 N4 g_a1
  have Z7 : n0 ≤ h7.size := Nat.le_trans Z4 (Keep.of_wr W7).1
  have fc10 := (fc9.wr W7)
  have fc11 := (Fw4.other W7 (Or.inr (slot_ne (Or.inl (wJ hw 92 rfl)) (Or.inl (wJ hw 94 rfl)) (by decide) (t := (.array .byte)) (t' := .byte) (by decide) (by decide))))
  have fc12 := (((F3.ext E3).other W4 (Or.inr (slot_ne (Or.inl (wJ hw 167 rfl)) (Or.inl (wJ hw 92 rfl)) (by decide) (t := .int) (t' := (.array .byte)) (by decide) (by decide)))).other W7 (Or.inr (slot_ne (Or.inl (wJ hw 167 rfl)) (Or.inl (wJ hw 94 rfl)) (by decide) (t := .int) (t' := .byte) (by decide) (by decide))))
  have ne_a1_b3 : a1 ≠ b3 := Nat.ne_of_lt (Nat.lt_of_lt_of_le F3.lt (Nat.le_of_eq g3.symm))
  have fc13 := ((V3.other W4 (Ne.symm ne_a1_b3)).other W7 (Ne.symm ne_a1_b3))
  have fc14 := ((Ax3.wr W4).wr W7)
  obtain ⟨fs, hr, hrun, hended, hW, hsame⟩ := X7.leave (v := none) (fun _ => rfl)
  refine ⟨_, _, pre0 _ ?_, hrun, hended, _, _, rfl, ?_, ⟨_, rfl⟩, hW, hsame.mono (by decide) (by decide)⟩
  · show Steps p.tables e below (s₁.setTop (mkF m 0 #[.val (.ref a1), .val (.int (16 : Int32))] [])) _
    refine XS.aloadN X0.here hx rfl (hb hby d11_0) rfl rfl ?_
    refine st1 _ ?_
    refine st2 _ ?_
    refine XS.ifNo X2.here hx rfl (hb hby d11_7) rfl ((if0 _ _).trans (feq (hcs : ¬ (cs = (0 : Int32)))).1) ?_
    show Steps _ _ _ (T2.setTop (mkF m 10 #[.val (.ref a1), .val (.int (16 : Int32))] [])) _
    refine XS.aloadN X2.here hx rfl (hb hby d11_10) rfl rfl ?_
    refine XS.iloadN X2.here hx rfl (hb hby d11_11) rfl ?_
    refine st3 _ ?_
    refine st4 _ ?_
    show Steps _ _ _ (T4.setTop (mkF m 17 #[.val (.ref a1), .val (.int (16 : Int32))] [])) _
    refine XS.aloadN X4.here hx rfl (hb hby d11_17) rfl rfl ?_
    refine XS.iconst X4.here hx rfl (hb hby d11_18) ?_
    refine st7 _ ?_
    refine XS.goto X7.here hx rfl (pc0 := 22) (pc' := 38) rfl (hb hby d11_22) (by decide) (by decide) ?_
    show Steps _ _ _ (T7.setTop (mkF m 38 #[.val (.ref a1), .val (.int (16 : Int32))] [])) _
    exact X7.returnOut hx Bd.returns (hb hby d11_38) hr
  · show Qown_asb Z a1 cs nb h0 n0 _ T7.heap _
    rw [e7]
    exact ⟨rfl, N7, K7, b3, k3, _, fc10, fc11, Fw7, fc12, fc13, rfl, w_a1, Nat.le_trans hn2 sz_b3, ne_a1_b3, fc14⟩
theorem d10_0 : decode c10 0 = .ok (.aload_n 0, 1) := by decide +kernel
theorem d10_1 : decode c10 1 = .ok (.bipush 16, 2) := by decide +kernel
theorem d10_3 : decode c10 3 = .ok (.invokespecial 1, 3) := by decide +kernel
theorem d10_6 : decode c10 6 = .ok (.return_, 1) := by decide +kernel
theorem ef_own_sbi (m : MethodId) (x0 : Addr) : entryFrame m #[(.ref x0)] 1 = mkF m 0 #[.val (.ref x0)] [] := by first | (simp [entryFrame, mkF, argsToLocals, Value.category]; done) | rfl
def Qown_sbi (Z : State) (a1 : Addr) (cs : Int32) (nb : Nat) (h0 : Heap) (n0 : Nat) (v : Option Value) (h : Heap) (L : List Loc) : Prop := v = none ∧ Fr n0 L ∧ Keep h0 h [a1] ∧ own_sb Z h nb a1 (16 : Int32) (0 : Int32)
theorem own_sbi (l : Launch) (Z : State) (a0 : Array Value) (hw : ∀ d ∈ tables_1, d.before a0 Z = true) (ws : List Jvm.Cond) (a1 : Addr) (cs : Int32) (nb : Nat) (h0 : Heap) (n0 : Nat) (Z0 : n0 ≤ h0.size) (F1 : Fld Z h0 a1 "java/lang/AbstractStringBuilder" "value" "[B" .null) (F2 : Fld Z h0 a1 "java/lang/AbstractStringBuilder" "coder" "B" (.int (0 : Int32))) (F3 : Fld Z h0 a1 "java/lang/AbstractStringBuilder" "count" "I" (.int (0 : Int32))) (E1 : Exa Z h0 a1 "java/lang/StringBuilder") (w_a1 : nb ≤ a1) (hn1 : n0 ≤ nb) (hn2 : nb ≤ h0.size) (SC : own_S Z h0 nb "java/lang/String" "COMPACT_STRINGS" "Z" (.int cs)) (hcs : ¬ (cs = (0 : Int32))) :
    MetFree l mn37 (head1 (Jvm.Cond.code mn37 jdk_67_method_1_code 1 none :: ws) (⟨2, 1, 16, 25⟩ : Room)) (fun a U => a = #[(.ref a1)] ∧ Z.Warmed39 U.vm ∧ U.heap = h0) (fun _ _ _ _ _ => True) (fun _ U o U' => ∃ v L, o = .returned v ∧ Qown_sbi Z a1 cs nb h0 n0 v U'.heap L ∧ FrameEnd U o U' L (⟨2, 1, 16, 25⟩ : Room).cells (⟨2, 1, 16, 25⟩ : Room).slots) := by
  refine MetFree.of_bodySF (plainFor_of_name pn_java_lang_StringBuilder) hisR ?_
  intro p e s m args below meth c s₁ Bd hml0 hP hK
  obtain ⟨rfl, hZ, hh⟩ := hP
  have hx := Bd.exec
  have hby := Bd.bytes
  have hml : c.maxLocals = 1 := hml0
  have hown : s.vm.findClass "java/lang/StringBuilder" = some m.cls := findClass_of_methodNamed Bd.named
  have hnm := (name_of_methodNamed Bd.named Bd.method).1
  have X0 : Stand p l e (⟨2, 1, 16, 25⟩ : Room) s m #[(.ref a1)] below meth c s₁ [] 0 0 := Stand.of_body Bd
  have e0 : s₁.heap = h0 := by rw [← hh, Bd.state]; rfl
  have N0 := Fr.nil n0
  have pre0 : ∀ t, Steps p.tables e below (s₁.setTop (mkF m 0 #[.val (.ref a1)] [])) t → Steps p.tables e below (s₁.setTop (entryFrame m #[(.ref a1)] 1)) t := fun t k => castTop (ef_own_sbi m (a1)) k
  obtain ⟨_, _, ⟨T1, L1, k1, n1⟩, -, X1, ⟨Lc1, hQ1, l1, y1, z1⟩, st1⟩ := X0.specialBack hx (y := mn14) rfl hown (mvT hZ (wJ hw 83 rfl)) (mvT hZ (wJ hw 84 rfl)) (mvT hZ (wJ hw 88 rfl)) (by decide) (backOf (W := 0) (own_asb l Z a0 hw [] a1 cs nb h0 n0 Z0 F1 F2 F3 E1 w_a1 hn1 hn2 SC hcs) hZ (wJ hw 88 rfl) (wJ hw 87 rfl) (by decide) (by decide)) (g := (mkF m 3 #[.val (.ref a1)] [(.int (16 : Int32)), (.ref a1)])) rfl (by rw [hml]; rfl) (Steps.refl _) (a := a1) (argsL := [(.int (16 : Int32))]) (rest := []) (lenOf pd__I_V rfl) rfl (by show 2 * 0 + _ ≤ _; exact Nat.le_of_eq rfl) (hb hby d10_3) (fun _ _ => ⟨rfl, e0, (by decide : 0 + 1 ≤ _), (by decide : 0 + 16 ≤ _)⟩)
  dsimp only [Pt.U, Pt.locs, Pt.cells, Pt.slots] at X1 l1 y1 z1 st1 hQ1
  replace X1 := X1.more (Nat.le_of_eq (show k1 = 1 from y1)) (Nat.le_of_eq (show n1 = 16 from z1))
  obtain ⟨rfl, Nq1, Kq1, B1⟩ := hQ1
  have Z1 : n0 ≤ T1.heap.size := Nat.le_trans Z0 Kq1.1
  have K1 : Keep h0 T1.heap [a1] := (Keep.refl h0 [a1]).trans Kq1 (allS (Or.inl (wI 0 rfl)) all0)
  have N1 : Fr n0 L1 := by rw [l1]; exact Fr.app N0 Nq1
  obtain ⟨fs, hr, hrun, hended, hW, hsame⟩ := X1.leave (v := none) (fun _ => rfl)
  refine ⟨_, _, pre0 _ ?_, hrun, hended, _, _, rfl, ?_, ⟨_, rfl⟩, hW, hsame.mono (by decide) (by decide)⟩
  · show Steps p.tables e below (s₁.setTop (mkF m 0 #[.val (.ref a1)] [])) _
    refine XS.aloadN X0.here hx rfl (hb hby d10_0) rfl rfl ?_
    refine XS.bipush X0.here hx rfl (hb hby d10_1) ?_
    refine st1.trans ?_
    show Steps _ _ _ (T1.setTop (mkF m 6 #[.val (.ref a1)] [])) _
    exact X1.returnOut hx Bd.returns (hb hby d10_6) hr
  · show Qown_sbi Z a1 cs nb h0 n0 _ T1.heap _
    exact ⟨rfl, N1, K1, B1⟩
theorem own_byte {Z : State} {h : Heap} {a : Addr} {k : ClassId} {z : Int32} {vs : List Value} {d : Value} (V : Arv Z h a k .byte z vs d) {i : Nat} (hi : i < z.toNatClampNeg) : ∃ u : Int32, vs.getD i d = .int u := by
  obtain ⟨c, A, q, S, hz, H, G⟩ := V
  exact fit_I (G i (by rw [S]; exact hi)) (by simp)
theorem d30_0 : decode c30 0 = .ok (.iconst 1, 1) := by decide +kernel
theorem d30_1 : decode c30 1 = .ok (.istore_n 2, 1) := by decide +kernel
theorem d30_2 : decode c30 2 = .ok (.lload_n 0, 1) := by decide +kernel
theorem d30_3 : decode c30 3 = .ok (.lconst 0, 1) := by decide +kernel
theorem d30_4 : decode c30 4 = .ok (.lcmp, 1) := by decide +kernel
theorem d30_5 : decode c30 5 = .ok (.ifCond .lt 8, 3) := by decide +kernel
theorem d30_8 : decode c30 8 = .ok (.iconst 0, 1) := by decide +kernel
theorem d30_9 : decode c30 9 = .ok (.istore_n 2, 1) := by decide +kernel
theorem d30_10 : decode c30 10 = .ok (.lload_n 0, 1) := by decide +kernel
theorem d30_11 : decode c30 11 = .ok (.lneg, 1) := by decide +kernel
theorem d30_12 : decode c30 12 = .ok (.lstore_n 0, 1) := by decide +kernel
theorem d30_13 : decode c30 13 = .ok (.ldc2_w 140, 3) := by decide +kernel
theorem d30_16 : decode c30 16 = .ok (.lstore_n 3, 1) := by decide +kernel
theorem d30_17 : decode c30 17 = .ok (.iconst 1, 1) := by decide +kernel
theorem d30_18 : decode c30 18 = .ok (.istore 5, 2) := by decide +kernel
theorem d30_20 : decode c30 20 = .ok (.iload 5, 2) := by decide +kernel
theorem d30_22 : decode c30 22 = .ok (.bipush 19, 2) := by decide +kernel
theorem d30_24 : decode c30 24 = .ok (.if_icmp .ge 26, 3) := by decide +kernel
theorem d30_27 : decode c30 27 = .ok (.lload_n 0, 1) := by decide +kernel
theorem d30_28 : decode c30 28 = .ok (.lload_n 3, 1) := by decide +kernel
theorem d30_29 : decode c30 29 = .ok (.lcmp, 1) := by decide +kernel
theorem d30_30 : decode c30 30 = .ok (.ifCond .le 8, 3) := by decide +kernel
theorem d30_33 : decode c30 33 = .ok (.iload 5, 2) := by decide +kernel
theorem d30_35 : decode c30 35 = .ok (.iload_n 2, 1) := by decide +kernel
theorem d30_36 : decode c30 36 = .ok (.iadd, 1) := by decide +kernel
theorem d30_37 : decode c30 37 = .ok (.ireturn, 1) := by decide +kernel
theorem pn_java_lang_Long : plainName "java/lang/Long" = true := by first | (simp [plainName, overriddenIn]; done) | decide +kernel
theorem ef_own_lszx1 (m : MethodId) (x0 : Int64) : entryFrame m #[(.long x0)] 6 = mkF m 0 #[.val (.long x0), .second, .unset, .unset, .unset, .unset] [] := by first | (simp [entryFrame, mkF, argsToLocals, Value.category]; done) | rfl
def Qown_lszx1 (Z : State) (qq : Int64) (h0 : Heap) (n0 : Nat) (v : Option Value) (h : Heap) (L : List Loc) : Prop := v = some (.int (1 : Int32)) ∧ Fr n0 L ∧ h = h0
theorem own_lszx1 (l : Launch) (Z : State) (a0 : Array Value) (hw : ∀ d ∈ tables_1, d.before a0 Z = true) (ws : List Jvm.Cond) (qq : Int64) (h0 : Heap) (n0 : Nat) (Z0 : n0 ≤ h0.size) (hq : qq = (2 : Int64) ∨ qq = (3 : Int64)) :
    MetFree l mn25 (head1 (Jvm.Cond.code mn25 jdk_35_method_15_code 6 (some .int) :: ws) (⟨0, 0, 0, 0⟩ : Room)) (fun a U => a = #[(.long qq)] ∧ Z.Warmed39 U.vm ∧ U.heap = h0) (fun _ _ _ _ _ => True) (fun _ U o U' => ∃ v L, o = .returned v ∧ Qown_lszx1 Z qq h0 n0 v U'.heap L ∧ FrameEnd U o U' L (⟨0, 0, 0, 0⟩ : Room).cells (⟨0, 0, 0, 0⟩ : Room).slots) := by
  refine MetFree.of_bodySF (plainFor_of_name pn_java_lang_Long) hisR ?_
  intro p e s m args below meth c s₁ Bd hml0 hP hK
  obtain ⟨rfl, hZ, hh⟩ := hP
  have hx := Bd.exec
  have hby := Bd.bytes
  have hml : c.maxLocals = 6 := hml0
  have hown : s.vm.findClass "java/lang/Long" = some m.cls := findClass_of_methodNamed Bd.named
  have hnm := (name_of_methodNamed Bd.named Bd.method).1
  have X0 : Stand p l e (⟨0, 0, 0, 0⟩ : Room) s m #[(.long qq)] below meth c s₁ [] 0 0 := Stand.of_body Bd
  have e0 : s₁.heap = h0 := by rw [← hh, Bd.state]; rfl
  have N0 := Fr.nil n0
  have pre0 : ∀ t, Steps p.tables e below (s₁.setTop (mkF m 0 #[.val (.long qq), .second, .unset, .unset, .unset, .unset] [])) t → Steps p.tables e below (s₁.setTop (entryFrame m #[(.long qq)] 6)) t := fun t k => castTop (ef_own_lszx1 m (qq)) k
  obtain ⟨fs, hr, hrun, hended, hW, hsame⟩ := X0.leave (v := some (.int ((1 : Int32) + (0 : Int32)))) (fun h => by rw [Bd.returns] at h; cases h)
  refine ⟨_, _, pre0 _ ?_, hrun, hended, _, _, rfl, ?_, ⟨_, rfl⟩, hW, hsame.mono (by decide) (by decide)⟩
  · show Steps p.tables e below (s₁.setTop (mkF m 0 #[.val (.long qq), .second, .unset, .unset, .unset, .unset] [])) _
    refine XS.iconst X0.here hx rfl (hb hby d30_0) ?_
    refine XS.istoreN X0.here hx rfl (hb hby d30_1) rfl (l' := #[.val (.long qq), .second, .val (.int (1 : Int32)), .unset, .unset, .unset]) rfl ?_
    refine XS.lloadN X0.here hx rfl (hb hby d30_2) rfl ?_
    refine XS.lconst X0.here hx rfl (hb hby d30_3) ?_
    show Steps _ _ _ (s₁.setTop (mkF m 4 #[.val (.long qq), .second, .val (.int (1 : Int32)), .unset, .unset, .unset] [(.long (0 : Int64)), (.long qq)])) _
    refine XS.lcmp X0.here hx rfl (hb hby d30_4) rfl ?_
    refine XS.ifNo X0.here hx rfl (hb hby d30_5) rfl ((if0 _ _).trans (flt (fun q => ((by rcases hq with rfl | rfl <;> decide : ¬ (qq < (0 : Int64)))) ((lw_lt _ _).mp q) : ¬ ((lcmpW qq (0 : Int64)) < (0 : Int32)))).1) ?_
    refine XS.iconst X0.here hx rfl (hb hby d30_8) ?_
    refine XS.istoreN X0.here hx rfl (hb hby d30_9) rfl (l' := #[.val (.long qq), .second, .val (.int (0 : Int32)), .unset, .unset, .unset]) rfl ?_
    show Steps _ _ _ (s₁.setTop (mkF m 10 #[.val (.long qq), .second, .val (.int (0 : Int32)), .unset, .unset, .unset] [])) _
    refine XS.lloadN X0.here hx rfl (hb hby d30_10) rfl ?_
    refine XS.lneg X0.here hx rfl (hb hby d30_11) rfl ?_
    refine XS.lstoreN X0.here hx rfl (hb hby d30_12) rfl (l' := #[.val (.long (-qq)), .second, .val (.int (0 : Int32)), .unset, .unset, .unset]) rfl ?_
    refine X0.ldc2Long hx hown (mvT hZ (wJ hw 215 rfl)) (g := (mkF m 13 #[.val (.long (-qq)), .second, .val (.int (0 : Int32)), .unset, .unset, .unset] [])) rfl (hb hby d30_13) _ ?_
    show Steps _ _ _ (s₁.setTop (mkF m 16 #[.val (.long (-qq)), .second, .val (.int (0 : Int32)), .unset, .unset, .unset] [(.long (-10 : Int64))])) _
    refine XS.lstoreN X0.here hx rfl (hb hby d30_16) rfl (l' := #[.val (.long (-qq)), .second, .val (.int (0 : Int32)), .val (.long (-10 : Int64)), .second, .unset]) rfl ?_
    refine XS.iconst X0.here hx rfl (hb hby d30_17) ?_
    refine XS.istore X0.here hx rfl (hb hby d30_18) rfl (l' := #[.val (.long (-qq)), .second, .val (.int (0 : Int32)), .val (.long (-10 : Int64)), .second, .val (.int (1 : Int32))]) rfl ?_
    refine XS.iload X0.here hx rfl (hb hby d30_20) rfl ?_
    show Steps _ _ _ (s₁.setTop (mkF m 22 #[.val (.long (-qq)), .second, .val (.int (0 : Int32)), .val (.long (-10 : Int64)), .second, .val (.int (1 : Int32))] [(.int (1 : Int32))])) _
    refine XS.bipush X0.here hx rfl (hb hby d30_22) ?_
    refine XS.icmpNo X0.here hx rfl (hb hby d30_24) rfl (tlt (by decide : (1 : Int32) < (19 : Int32))).2.1 ?_
    refine XS.lloadN X0.here hx rfl (hb hby d30_27) rfl ?_
    refine XS.lloadN X0.here hx rfl (hb hby d30_28) rfl ?_
    show Steps _ _ _ (s₁.setTop (mkF m 29 #[.val (.long (-qq)), .second, .val (.int (0 : Int32)), .val (.long (-10 : Int64)), .second, .val (.int (1 : Int32))] [(.long (-10 : Int64)), (.long (-qq))])) _
    refine XS.lcmp X0.here hx rfl (hb hby d30_29) rfl ?_
    refine XS.ifNo X0.here hx rfl (hb hby d30_30) rfl ((if0 _ _).trans (tlt ((lw_gt _ _).mpr ((by rcases hq with rfl | rfl <;> decide : (-10 : Int64) < (-qq))) : (0 : Int32) < (lcmpW (-qq) (-10 : Int64)))).2.2.2) ?_
    refine XS.iload X0.here hx rfl (hb hby d30_33) rfl ?_
    refine XS.iloadN X0.here hx rfl (hb hby d30_35) rfl ?_
    show Steps _ _ _ (s₁.setTop (mkF m 36 #[.val (.long (-qq)), .second, .val (.int (0 : Int32)), .val (.long (-10 : Int64)), .second, .val (.int (1 : Int32))] [(.int (0 : Int32)), (.int (1 : Int32))])) _
    refine XS.iadd X0.here hx rfl (hb hby d30_36) rfl ?_
    show Steps _ _ _ (s₁.setTop (mkF m 37 #[.val (.long (-qq)), .second, .val (.int (0 : Int32)), .val (.long (-10 : Int64)), .second, .val (.int (1 : Int32))] [(.int ((1 : Int32) + (0 : Int32)))])) _
    exact retI X0 hx Bd.returns (hb hby d30_37) hr
  · show Qown_lszx1 Z qq h0 n0 _ s₁.heap _
    rw [e0]
    exact ⟨rfl, N0, rfl⟩
theorem d30_38 : decode c30 38 = .ok (.ldc2_w 53, 3) := by decide +kernel
theorem d30_41 : decode c30 41 = .ok (.lload_n 3, 1) := by decide +kernel
theorem d30_42 : decode c30 42 = .ok (.lmul, 1) := by decide +kernel
theorem d30_43 : decode c30 43 = .ok (.lstore_n 3, 1) := by decide +kernel
theorem d30_44 : decode c30 44 = .ok (.iinc 5 1, 3) := by decide +kernel
theorem d30_47 : decode c30 47 = .ok (.goto (-27), 3) := by decide +kernel
theorem ef_own_lszx2 (m : MethodId) (x0 : Int64) : entryFrame m #[(.long x0)] 6 = mkF m 0 #[.val (.long x0), .second, .unset, .unset, .unset, .unset] [] := by first | (simp [entryFrame, mkF, argsToLocals, Value.category]; done) | rfl
def Qown_lszx2 (Z : State) (qq : Int64) (h0 : Heap) (n0 : Nat) (v : Option Value) (h : Heap) (L : List Loc) : Prop := v = some (.int (2 : Int32)) ∧ Fr n0 L ∧ h = h0
theorem own_lszx2 (l : Launch) (Z : State) (a0 : Array Value) (hw : ∀ d ∈ tables_1, d.before a0 Z = true) (ws : List Jvm.Cond) (qq : Int64) (h0 : Heap) (n0 : Nat) (Z0 : n0 ≤ h0.size) (hq : qq = (10 : Int64) ∨ qq = (20 : Int64)) :
    MetFree l mn25 (head1 (Jvm.Cond.code mn25 jdk_35_method_15_code 6 (some .int) :: ws) (⟨0, 0, 0, 0⟩ : Room)) (fun a U => a = #[(.long qq)] ∧ Z.Warmed39 U.vm ∧ U.heap = h0) (fun _ _ _ _ _ => True) (fun _ U o U' => ∃ v L, o = .returned v ∧ Qown_lszx2 Z qq h0 n0 v U'.heap L ∧ FrameEnd U o U' L (⟨0, 0, 0, 0⟩ : Room).cells (⟨0, 0, 0, 0⟩ : Room).slots) := by
  refine MetFree.of_bodySF (plainFor_of_name pn_java_lang_Long) hisR ?_
  intro p e s m args below meth c s₁ Bd hml0 hP hK
  obtain ⟨rfl, hZ, hh⟩ := hP
  have hx := Bd.exec
  have hby := Bd.bytes
  have hml : c.maxLocals = 6 := hml0
  have hown : s.vm.findClass "java/lang/Long" = some m.cls := findClass_of_methodNamed Bd.named
  have hnm := (name_of_methodNamed Bd.named Bd.method).1
  have X0 : Stand p l e (⟨0, 0, 0, 0⟩ : Room) s m #[(.long qq)] below meth c s₁ [] 0 0 := Stand.of_body Bd
  have e0 : s₁.heap = h0 := by rw [← hh, Bd.state]; rfl
  have N0 := Fr.nil n0
  have pre0 : ∀ t, Steps p.tables e below (s₁.setTop (mkF m 0 #[.val (.long qq), .second, .unset, .unset, .unset, .unset] [])) t → Steps p.tables e below (s₁.setTop (entryFrame m #[(.long qq)] 6)) t := fun t k => castTop (ef_own_lszx2 m (qq)) k
  obtain ⟨fs, hr, hrun, hended, hW, hsame⟩ := X0.leave (v := some (.int (((1 : Int32) + (1 : Int32)) + (0 : Int32)))) (fun h => by rw [Bd.returns] at h; cases h)
  refine ⟨_, _, pre0 _ ?_, hrun, hended, _, _, rfl, ?_, ⟨_, rfl⟩, hW, hsame.mono (by decide) (by decide)⟩
  · show Steps p.tables e below (s₁.setTop (mkF m 0 #[.val (.long qq), .second, .unset, .unset, .unset, .unset] [])) _
    refine XS.iconst X0.here hx rfl (hb hby d30_0) ?_
    refine XS.istoreN X0.here hx rfl (hb hby d30_1) rfl (l' := #[.val (.long qq), .second, .val (.int (1 : Int32)), .unset, .unset, .unset]) rfl ?_
    refine XS.lloadN X0.here hx rfl (hb hby d30_2) rfl ?_
    refine XS.lconst X0.here hx rfl (hb hby d30_3) ?_
    show Steps _ _ _ (s₁.setTop (mkF m 4 #[.val (.long qq), .second, .val (.int (1 : Int32)), .unset, .unset, .unset] [(.long (0 : Int64)), (.long qq)])) _
    refine XS.lcmp X0.here hx rfl (hb hby d30_4) rfl ?_
    refine XS.ifNo X0.here hx rfl (hb hby d30_5) rfl ((if0 _ _).trans (flt (fun q => ((by rcases hq with rfl | rfl <;> decide : ¬ (qq < (0 : Int64)))) ((lw_lt _ _).mp q) : ¬ ((lcmpW qq (0 : Int64)) < (0 : Int32)))).1) ?_
    refine XS.iconst X0.here hx rfl (hb hby d30_8) ?_
    refine XS.istoreN X0.here hx rfl (hb hby d30_9) rfl (l' := #[.val (.long qq), .second, .val (.int (0 : Int32)), .unset, .unset, .unset]) rfl ?_
    show Steps _ _ _ (s₁.setTop (mkF m 10 #[.val (.long qq), .second, .val (.int (0 : Int32)), .unset, .unset, .unset] [])) _
    refine XS.lloadN X0.here hx rfl (hb hby d30_10) rfl ?_
    refine XS.lneg X0.here hx rfl (hb hby d30_11) rfl ?_
    refine XS.lstoreN X0.here hx rfl (hb hby d30_12) rfl (l' := #[.val (.long (-qq)), .second, .val (.int (0 : Int32)), .unset, .unset, .unset]) rfl ?_
    refine X0.ldc2Long hx hown (mvT hZ (wJ hw 215 rfl)) (g := (mkF m 13 #[.val (.long (-qq)), .second, .val (.int (0 : Int32)), .unset, .unset, .unset] [])) rfl (hb hby d30_13) _ ?_
    show Steps _ _ _ (s₁.setTop (mkF m 16 #[.val (.long (-qq)), .second, .val (.int (0 : Int32)), .unset, .unset, .unset] [(.long (-10 : Int64))])) _
    refine XS.lstoreN X0.here hx rfl (hb hby d30_16) rfl (l' := #[.val (.long (-qq)), .second, .val (.int (0 : Int32)), .val (.long (-10 : Int64)), .second, .unset]) rfl ?_
    refine XS.iconst X0.here hx rfl (hb hby d30_17) ?_
    refine XS.istore X0.here hx rfl (hb hby d30_18) rfl (l' := #[.val (.long (-qq)), .second, .val (.int (0 : Int32)), .val (.long (-10 : Int64)), .second, .val (.int (1 : Int32))]) rfl ?_
    refine XS.iload X0.here hx rfl (hb hby d30_20) rfl ?_
    show Steps _ _ _ (s₁.setTop (mkF m 22 #[.val (.long (-qq)), .second, .val (.int (0 : Int32)), .val (.long (-10 : Int64)), .second, .val (.int (1 : Int32))] [(.int (1 : Int32))])) _
    refine XS.bipush X0.here hx rfl (hb hby d30_22) ?_
    refine XS.icmpNo X0.here hx rfl (hb hby d30_24) rfl (tlt (by decide : (1 : Int32) < (19 : Int32))).2.1 ?_
    refine XS.lloadN X0.here hx rfl (hb hby d30_27) rfl ?_
    refine XS.lloadN X0.here hx rfl (hb hby d30_28) rfl ?_
    show Steps _ _ _ (s₁.setTop (mkF m 29 #[.val (.long (-qq)), .second, .val (.int (0 : Int32)), .val (.long (-10 : Int64)), .second, .val (.int (1 : Int32))] [(.long (-10 : Int64)), (.long (-qq))])) _
    refine XS.lcmp X0.here hx rfl (hb hby d30_29) rfl ?_
    refine XS.ifYes X0.here hx rfl (pc0 := 30) (pc' := 38) rfl (hb hby d30_30) rfl ((if0 _ _).trans (flt (fun q => ((by rcases hq with rfl | rfl <;> decide : ¬ ((-10 : Int64) < (-qq)))) ((lw_gt _ _).mp q) : ¬ ((0 : Int32) < (lcmpW (-qq) (-10 : Int64))))).2.2.2) (by decide) (by decide) ?_
    refine X0.ldc2Long hx hown (mvT hZ (wJ hw 228 rfl)) (g := (mkF m 38 #[.val (.long (-qq)), .second, .val (.int (0 : Int32)), .val (.long (-10 : Int64)), .second, .val (.int (1 : Int32))] [])) rfl (hb hby d30_38) _ ?_
    refine XS.lloadN X0.here hx rfl (hb hby d30_41) rfl ?_
    show Steps _ _ _ (s₁.setTop (mkF m 42 #[.val (.long (-qq)), .second, .val (.int (0 : Int32)), .val (.long (-10 : Int64)), .second, .val (.int (1 : Int32))] [(.long (-10 : Int64)), (.long (10 : Int64))])) _
    refine XS.lmul X0.here hx rfl (hb hby d30_42) rfl ?_
    refine XS.lstoreN X0.here hx rfl (hb hby d30_43) rfl (l' := #[.val (.long (-qq)), .second, .val (.int (0 : Int32)), .val (.long ((10 : Int64) * (-10 : Int64))), .second, .val (.int (1 : Int32))]) rfl ?_
    refine XS.iinc X0.here hx rfl (hb hby d30_44) rfl (l' := #[.val (.long (-qq)), .second, .val (.int (0 : Int32)), .val (.long ((10 : Int64) * (-10 : Int64))), .second, .val (.int ((1 : Int32) + (1 : Int32)))]) rfl ?_
    refine XS.goto X0.here hx rfl (pc0 := 47) (pc' := 20) rfl (hb hby d30_47) (by decide) (by decide) ?_
    show Steps _ _ _ (s₁.setTop (mkF m 20 #[.val (.long (-qq)), .second, .val (.int (0 : Int32)), .val (.long ((10 : Int64) * (-10 : Int64))), .second, .val (.int ((1 : Int32) + (1 : Int32)))] [])) _
    refine XS.iload X0.here hx rfl (hb hby d30_20) rfl ?_
    refine XS.bipush X0.here hx rfl (hb hby d30_22) ?_
    refine XS.icmpNo X0.here hx rfl (hb hby d30_24) rfl (tlt (by decide : ((1 : Int32) + (1 : Int32)) < (19 : Int32))).2.1 ?_
    refine XS.lloadN X0.here hx rfl (hb hby d30_27) rfl ?_
    show Steps _ _ _ (s₁.setTop (mkF m 28 #[.val (.long (-qq)), .second, .val (.int (0 : Int32)), .val (.long ((10 : Int64) * (-10 : Int64))), .second, .val (.int ((1 : Int32) + (1 : Int32)))] [(.long (-qq))])) _
    refine XS.lloadN X0.here hx rfl (hb hby d30_28) rfl ?_
    refine XS.lcmp X0.here hx rfl (hb hby d30_29) rfl ?_
    refine XS.ifNo X0.here hx rfl (hb hby d30_30) rfl ((if0 _ _).trans (tlt ((lw_gt _ _).mpr ((by rcases hq with rfl | rfl <;> decide : ((10 : Int64) * (-10 : Int64)) < (-qq))) : (0 : Int32) < (lcmpW (-qq) ((10 : Int64) * (-10 : Int64))))).2.2.2) ?_
    refine XS.iload X0.here hx rfl (hb hby d30_33) rfl ?_
    show Steps _ _ _ (s₁.setTop (mkF m 35 #[.val (.long (-qq)), .second, .val (.int (0 : Int32)), .val (.long ((10 : Int64) * (-10 : Int64))), .second, .val (.int ((1 : Int32) + (1 : Int32)))] [(.int ((1 : Int32) + (1 : Int32)))])) _
    refine XS.iloadN X0.here hx rfl (hb hby d30_35) rfl ?_
    refine XS.iadd X0.here hx rfl (hb hby d30_36) rfl ?_
    show Steps _ _ _ (s₁.setTop (mkF m 37 #[.val (.long (-qq)), .second, .val (.int (0 : Int32)), .val (.long ((10 : Int64) * (-10 : Int64))), .second, .val (.int ((1 : Int32) + (1 : Int32)))] [(.int (((1 : Int32) + (1 : Int32)) + (0 : Int32)))])) _
    exact retI X0 hx Bd.returns (hb hby d30_37) hr
  · show Qown_lszx2 Z qq h0 n0 _ s₁.heap _
    rw [e0]
    exact ⟨rfl, N0, rfl⟩
theorem d32_0 : decode c32 0 = .ok (.iload_n 2, 1) := by decide +kernel
theorem d32_1 : decode c32 1 = .ok (.istore 7, 2) := by decide +kernel
theorem d32_3 : decode c32 3 = .ok (.lload_n 0, 1) := by decide +kernel
theorem d32_4 : decode c32 4 = .ok (.lconst 0, 1) := by decide +kernel
theorem d32_5 : decode c32 5 = .ok (.lcmp, 1) := by decide +kernel
theorem d32_6 : decode c32 6 = .ok (.ifCond .ge 7, 3) := by decide +kernel
theorem d32_13 : decode c32 13 = .ok (.iconst 0, 1) := by decide +kernel
theorem d32_14 : decode c32 14 = .ok (.istore 8, 2) := by decide +kernel
theorem d32_16 : decode c32 16 = .ok (.iload 8, 2) := by decide +kernel
theorem d32_18 : decode c32 18 = .ok (.ifCond .ne 6, 3) := by decide +kernel
theorem d32_21 : decode c32 21 = .ok (.lload_n 0, 1) := by decide +kernel
theorem d32_22 : decode c32 22 = .ok (.lneg, 1) := by decide +kernel
theorem d32_23 : decode c32 23 = .ok (.lstore_n 0, 1) := by decide +kernel
theorem d32_24 : decode c32 24 = .ok (.lload_n 0, 1) := by decide +kernel
theorem d32_25 : decode c32 25 = .ok (.ldc2_w 129, 3) := by decide +kernel
theorem d32_28 : decode c32 28 = .ok (.lcmp, 1) := by decide +kernel
theorem d32_29 : decode c32 29 = .ok (.ifCond .gt 53, 3) := by decide +kernel
theorem d32_82 : decode c32 82 = .ok (.lload_n 0, 1) := by decide +kernel
theorem d32_83 : decode c32 83 = .ok (.l2i, 1) := by decide +kernel
theorem d32_84 : decode c32 84 = .ok (.istore 10, 2) := by decide +kernel
theorem d32_86 : decode c32 86 = .ok (.iload 10, 2) := by decide +kernel
theorem d32_88 : decode c32 88 = .ok (.bipush (-100), 2) := by decide +kernel
theorem d32_90 : decode c32 90 = .ok (.if_icmp .gt 53, 3) := by decide +kernel
theorem d32_143 : decode c32 143 = .ok (.aload_n 3, 1) := by decide +kernel
theorem d32_144 : decode c32 144 = .ok (.iinc 7 (-1), 3) := by decide +kernel
theorem d32_147 : decode c32 147 = .ok (.iload 7, 2) := by decide +kernel
theorem d32_149 : decode c32 149 = .ok (.getstatic 133, 3) := by decide +kernel
theorem d32_152 : decode c32 152 = .ok (.iload 10, 2) := by decide +kernel
theorem d32_154 : decode c32 154 = .ok (.ineg, 1) := by decide +kernel
theorem d32_155 : decode c32 155 = .ok (.baload, 1) := by decide +kernel
theorem d32_156 : decode c32 156 = .ok (.bastore, 1) := by decide +kernel
theorem d32_157 : decode c32 157 = .ok (.iload 10, 2) := by decide +kernel
theorem d32_159 : decode c32 159 = .ok (.bipush (-9), 2) := by decide +kernel
theorem d32_161 : decode c32 161 = .ok (.if_icmp .ge 17, 3) := by decide +kernel
theorem d32_178 : decode c32 178 = .ok (.iload 8, 2) := by decide +kernel
theorem d32_180 : decode c32 180 = .ok (.ifCond .eq 12, 3) := by decide +kernel
theorem d32_192 : decode c32 192 = .ok (.iload 7, 2) := by decide +kernel
theorem d32_194 : decode c32 194 = .ok (.ireturn, 1) := by decide +kernel
theorem ef_own_lgc2 (m : MethodId) (x0 : Int64) (x1 : Int32) (x2 : Addr) : entryFrame m #[(.long x0), (.int x1), (.ref x2)] 11 = mkF m 0 #[.val (.long x0), .second, .val (.int x1), .val (.ref x2), .unset, .unset, .unset, .unset, .unset, .unset, .unset] [] := by first | (simp [entryFrame, mkF, argsToLocals, Value.category]; done) | rfl
def Qown_lgc2 (Z : State) (a3 : Addr) (k : ClassId) (vs : List Value) (nb : Nat) (d1 : Addr) (d2 : Addr) (kd1 : ClassId) (kd2 : ClassId) (vo : List Value) (vt : List Value) (h0 : Heap) (n0 : Nat) (v : Option Value) (h : Heap) (L : List Loc) : Prop := (∃ u : Int32, v = some (.int u) ∧ Fr n0 L ∧ Keep h0 h [a3] ∧ ∃ vs2 : List Value, vs2.length = 16 ∧ Arv Z h a3 k .byte (16 : Int32) vs2 (.int (0 : Int32)))
theorem own_lgc2 (l : Launch) (Z : State) (a0 : Array Value) (hw : ∀ d ∈ tables_1, d.before a0 Z = true) (ws : List Jvm.Cond) (a3 : Addr) (k : ClassId) (vs : List Value) (nb : Nat) (d1 : Addr) (d2 : Addr) (kd1 : ClassId) (kd2 : ClassId) (vo : List Value) (vt : List Value) (h0 : Heap) (n0 : Nat) (Z0 : n0 ≤ h0.size) (V1 : Arv Z h0 a3 k .byte (16 : Int32) vs (.int (0 : Int32))) (hl : vs.length = 16) (w_a3 : nb ≤ a3) (hn1 : n0 ≤ nb) (SO : own_S Z h0 nb "java/lang/Integer" "DigitOnes" "[B" (.ref d1)) (ST : own_S Z h0 nb "java/lang/Integer" "DigitTens" "[B" (.ref d2)) (VO : Arv Z h0 d1 kd1 .byte (100 : Int32) vo (.int (0 : Int32))) (VT : Arv Z h0 d2 kd2 .byte (100 : Int32) vt (.int (0 : Int32))) (hd1 : d1 < nb) (hd2 : d2 < nb) :
    MetFree l mn24 (head1 (Jvm.Cond.code mn24 jdk_35_method_14_code 11 (some .int) :: ws) (⟨0, 0, 0, 0⟩ : Room)) (fun a U => a = #[(.long (2 : Int64)), (.int (7 : Int32)), (.ref a3)] ∧ Z.Warmed39 U.vm ∧ U.heap = h0) (fun _ _ _ _ _ => True) (fun _ U o U' => ∃ v L, o = .returned v ∧ Qown_lgc2 Z a3 k vs nb d1 d2 kd1 kd2 vo vt h0 n0 v U'.heap L ∧ FrameEnd U o U' L (⟨0, 0, 0, 0⟩ : Room).cells (⟨0, 0, 0, 0⟩ : Room).slots) := by
  refine MetFree.of_bodySF (plainFor_of_name pn_java_lang_Long) hisR ?_
  intro p e s m args below meth c s₁ Bd hml0 hP hK
  obtain ⟨rfl, hZ, hh⟩ := hP
  have hx := Bd.exec
  have hby := Bd.bytes
  have hml : c.maxLocals = 11 := hml0
  have hown : s.vm.findClass "java/lang/Long" = some m.cls := findClass_of_methodNamed Bd.named
  have hnm := (name_of_methodNamed Bd.named Bd.method).1
  have X0 : Stand p l e (⟨0, 0, 0, 0⟩ : Room) s m #[(.long (2 : Int64)), (.int (7 : Int32)), (.ref a3)] below meth c s₁ [] 0 0 := Stand.of_body Bd
  have e0 : s₁.heap = h0 := by rw [← hh, Bd.state]; rfl
  have N0 := Fr.nil n0
  have pre0 : ∀ t, Steps p.tables e below (s₁.setTop (mkF m 0 #[.val (.long (2 : Int64)), .second, .val (.int (7 : Int32)), .val (.ref a3), .unset, .unset, .unset, .unset, .unset, .unset, .unset] [])) t → Steps p.tables e below (s₁.setTop (entryFrame m #[(.long (2 : Int64)), (.int (7 : Int32)), (.ref a3)] 11)) t := fun t k => castTop (ef_own_lgc2 m ((2 : Int64)) ((7 : Int32)) (a3)) k
  have g_a3 := Nat.le_trans hn1 w_a3
  have nd1 : d1 ≠ a3 := Nat.ne_of_lt (Nat.lt_of_lt_of_le hd1 w_a3)
  have nd2 : d2 ≠ a3 := Nat.ne_of_lt (Nat.lt_of_lt_of_le hd2 w_a3)
  obtain ⟨u1, hu1⟩ := own_byte VO (i := 2) (by decide)
  obtain ⟨u2, hu2⟩ := own_byte VT (i := 2) (by decide)
  obtain ⟨T1, X1, e1, st1⟩ := getS2 X0 hx hZ hown (host := "") (Or.inl (wJ hw 225 rfl)) Via.refl e0 SO.sta (g := (mkF m 149 #[.val (.long (-(2 : Int64))), .second, .val (.int (7 : Int32)), .val (.ref a3), .unset, .unset, .unset, .val (.int ((7 : Int32) + (-1 : Int32))), .val (.int (0 : Int32)), .unset, .val (.int ((-(2 : Int64)).toInt32))] [(.int ((7 : Int32) + (-1 : Int32))), (.ref a3)])) rfl (hb hby d32_149)
  obtain ⟨cl2, Ar2, qc2, S2, Nn2, H2, G2⟩ := id VO
  have hin2 : ¬ ((-((-(2 : Int64)).toInt32)) < 0 ∨ cl2.slots.size ≤ ((-((-(2 : Int64)).toInt32))).toNatClampNeg) := inb_of S2 ⟨by decide, by decide⟩
  have hat2 : cl2.slots[((-((-(2 : Int64)).toInt32))).toNatClampNeg]? = some (.int u1) := H2.at hin2 (hu1)
  obtain ⟨cl3, Ar3, qc3, S3, Nn3, H3, G3⟩ := id V1
  have hin3 : ¬ (((7 : Int32) + (-1 : Int32)) < 0 ∨ cl3.slots.size ≤ (((7 : Int32) + (-1 : Int32))).toNatClampNeg) := inb_of S3 ⟨by decide, by decide⟩
  obtain ⟨T4, h4, X4, e4, W4, st4⟩ := stB X1 hx hZ e1 Ar3 (j := ((7 : Int32) + (-1 : Int32))) hin3 (g := (mkF m 156 #[.val (.long (-(2 : Int64))), .second, .val (.int (7 : Int32)), .val (.ref a3), .unset, .unset, .unset, .val (.int ((7 : Int32) + (-1 : Int32))), .val (.int (0 : Int32)), .unset, .val (.int ((-(2 : Int64)).toInt32))] [(.int u1), (.int ((7 : Int32) + (-1 : Int32))), (.ref a3)])) rfl rfl (hb hby d32_156)
  have V4 : Arv Z h4 a3 k .byte (16 : Int32) (vs.set 6 (.int (nar .byte u1))) (.int (0 : Int32)) := Arv.set Ar3 qc3 S3 Nn3 H3 G3 (fits_nar_byte _) W4 6 rfl (by rw [hl]; decide)
  have K4 : Keep h0 h4 [a3] := (Keep.refl h0 [a3]).wr W4 (Or.inl (wI 0 rfl))
  have N4 := Fr.snoc X4 N0 g_a3
  have Z4 : n0 ≤ h4.size := Nat.le_trans Z0 (Keep.of_wr W4).1
  obtain ⟨fs, hr, hrun, hended, hW, hsame⟩ := X4.leave (v := some (.int ((7 : Int32) + (-1 : Int32)))) (fun h => by rw [Bd.returns] at h; cases h)
  refine ⟨_, _, pre0 _ ?_, hrun, hended, _, _, rfl, ?_, ⟨_, rfl⟩, hW, hsame.mono (by decide) (by decide)⟩
  · show Steps p.tables e below (s₁.setTop (mkF m 0 #[.val (.long (2 : Int64)), .second, .val (.int (7 : Int32)), .val (.ref a3), .unset, .unset, .unset, .unset, .unset, .unset, .unset] [])) _
    refine XS.iloadN X0.here hx rfl (hb hby d32_0) rfl ?_
    refine XS.istore X0.here hx rfl (hb hby d32_1) rfl (l' := #[.val (.long (2 : Int64)), .second, .val (.int (7 : Int32)), .val (.ref a3), .unset, .unset, .unset, .val (.int (7 : Int32)), .unset, .unset, .unset]) rfl ?_
    refine XS.lloadN X0.here hx rfl (hb hby d32_3) rfl ?_
    refine XS.lconst X0.here hx rfl (hb hby d32_4) ?_
    show Steps _ _ _ (s₁.setTop (mkF m 5 #[.val (.long (2 : Int64)), .second, .val (.int (7 : Int32)), .val (.ref a3), .unset, .unset, .unset, .val (.int (7 : Int32)), .unset, .unset, .unset] [(.long (0 : Int64)), (.long (2 : Int64))])) _
    refine XS.lcmp X0.here hx rfl (hb hby d32_5) rfl ?_
    refine XS.ifYes X0.here hx rfl (pc0 := 6) (pc' := 13) rfl (hb hby d32_6) rfl ((if0 _ _).trans (flt (fun q => ((by decide : ¬ ((2 : Int64) < (0 : Int64)))) ((lw_lt _ _).mp q) : ¬ ((lcmpW (2 : Int64) (0 : Int64)) < (0 : Int32)))).2.1) (by decide) (by decide) ?_
    refine XS.iconst X0.here hx rfl (hb hby d32_13) ?_
    refine XS.istore X0.here hx rfl (hb hby d32_14) rfl (l' := #[.val (.long (2 : Int64)), .second, .val (.int (7 : Int32)), .val (.ref a3), .unset, .unset, .unset, .val (.int (7 : Int32)), .val (.int (0 : Int32)), .unset, .unset]) rfl ?_
    show Steps _ _ _ (s₁.setTop (mkF m 16 #[.val (.long (2 : Int64)), .second, .val (.int (7 : Int32)), .val (.ref a3), .unset, .unset, .unset, .val (.int (7 : Int32)), .val (.int (0 : Int32)), .unset, .unset] [])) _
    refine XS.iload X0.here hx rfl (hb hby d32_16) rfl ?_
    refine XS.ifNo X0.here hx rfl (hb hby d32_18) rfl ((if0 _ _).trans (teq (rfl : (0 : Int32) = (0 : Int32))).2) ?_
    refine XS.lloadN X0.here hx rfl (hb hby d32_21) rfl ?_
    refine XS.lneg X0.here hx rfl (hb hby d32_22) rfl ?_
    show Steps _ _ _ (s₁.setTop (mkF m 23 #[.val (.long (2 : Int64)), .second, .val (.int (7 : Int32)), .val (.ref a3), .unset, .unset, .unset, .val (.int (7 : Int32)), .val (.int (0 : Int32)), .unset, .unset] [(.long (-(2 : Int64)))])) _
    refine XS.lstoreN X0.here hx rfl (hb hby d32_23) rfl (l' := #[.val (.long (-(2 : Int64))), .second, .val (.int (7 : Int32)), .val (.ref a3), .unset, .unset, .unset, .val (.int (7 : Int32)), .val (.int (0 : Int32)), .unset, .unset]) rfl ?_
    refine XS.lloadN X0.here hx rfl (hb hby d32_24) rfl ?_
    refine X0.ldc2Long hx hown (mvT hZ (wJ hw 224 rfl)) (g := (mkF m 25 #[.val (.long (-(2 : Int64))), .second, .val (.int (7 : Int32)), .val (.ref a3), .unset, .unset, .unset, .val (.int (7 : Int32)), .val (.int (0 : Int32)), .unset, .unset] [(.long (-(2 : Int64)))])) rfl (hb hby d32_25) _ ?_
    refine XS.lcmp X0.here hx rfl (hb hby d32_28) rfl ?_
    show Steps _ _ _ (s₁.setTop (mkF m 29 #[.val (.long (-(2 : Int64))), .second, .val (.int (7 : Int32)), .val (.ref a3), .unset, .unset, .unset, .val (.int (7 : Int32)), .val (.int (0 : Int32)), .unset, .unset] [(.int (lcmpW (-(2 : Int64)) (-2147483648 : Int64)))])) _
    refine XS.ifYes X0.here hx rfl (pc0 := 29) (pc' := 82) rfl (hb hby d32_29) rfl ((if0 _ _).trans (tlt ((lw_gt _ _).mpr ((by decide : (-2147483648 : Int64) < (-(2 : Int64)))) : (0 : Int32) < (lcmpW (-(2 : Int64)) (-2147483648 : Int64)))).2.2.1) (by decide) (by decide) ?_
    refine XS.lloadN X0.here hx rfl (hb hby d32_82) rfl ?_
    refine XS.l2i X0.here hx rfl (hb hby d32_83) rfl ?_
    refine XS.istore X0.here hx rfl (hb hby d32_84) rfl (l' := #[.val (.long (-(2 : Int64))), .second, .val (.int (7 : Int32)), .val (.ref a3), .unset, .unset, .unset, .val (.int (7 : Int32)), .val (.int (0 : Int32)), .unset, .val (.int ((-(2 : Int64)).toInt32))]) rfl ?_
    show Steps _ _ _ (s₁.setTop (mkF m 86 #[.val (.long (-(2 : Int64))), .second, .val (.int (7 : Int32)), .val (.ref a3), .unset, .unset, .unset, .val (.int (7 : Int32)), .val (.int (0 : Int32)), .unset, .val (.int ((-(2 : Int64)).toInt32))] [])) _
    refine XS.iload X0.here hx rfl (hb hby d32_86) rfl ?_
    refine XS.bipush X0.here hx rfl (hb hby d32_88) ?_
    refine XS.icmpYes X0.here hx rfl (pc0 := 90) (pc' := 143) rfl (hb hby d32_90) rfl (tlt (by decide : (-100 : Int32) < ((-(2 : Int64)).toInt32))).2.2.1 (by decide) (by decide) ?_
    refine XS.aloadN X0.here hx rfl (hb hby d32_143) rfl rfl ?_
    show Steps _ _ _ (s₁.setTop (mkF m 144 #[.val (.long (-(2 : Int64))), .second, .val (.int (7 : Int32)), .val (.ref a3), .unset, .unset, .unset, .val (.int (7 : Int32)), .val (.int (0 : Int32)), .unset, .val (.int ((-(2 : Int64)).toInt32))] [(.ref a3)])) _
    refine XS.iinc X0.here hx rfl (hb hby d32_144) rfl (l' := #[.val (.long (-(2 : Int64))), .second, .val (.int (7 : Int32)), .val (.ref a3), .unset, .unset, .unset, .val (.int ((7 : Int32) + (-1 : Int32))), .val (.int (0 : Int32)), .unset, .val (.int ((-(2 : Int64)).toInt32))]) rfl ?_
    refine XS.iload X0.here hx rfl (hb hby d32_147) rfl ?_
    refine st1 _ ?_
    refine XS.iload X1.here hx rfl (hb hby d32_152) rfl ?_
    show Steps _ _ _ (T1.setTop (mkF m 154 #[.val (.long (-(2 : Int64))), .second, .val (.int (7 : Int32)), .val (.ref a3), .unset, .unset, .unset, .val (.int ((7 : Int32) + (-1 : Int32))), .val (.int (0 : Int32)), .unset, .val (.int ((-(2 : Int64)).toInt32))] [(.int ((-(2 : Int64)).toInt32)), (.ref d1), (.int ((7 : Int32) + (-1 : Int32))), (.ref a3)])) _
    refine XS.ineg X1.here hx rfl (hb hby d32_154) rfl ?_
    refine X1.baloadBytes hx (j := (-((-(2 : Int64)).toInt32))) (v := (.int u1)) (by rw [e1]; exact Ar2.1) (State.isArrayOf_alike hZ.alike Ar2.2.1) Ar2.2.2 hin2 hat2 (g := (mkF m 155 #[.val (.long (-(2 : Int64))), .second, .val (.int (7 : Int32)), .val (.ref a3), .unset, .unset, .unset, .val (.int ((7 : Int32) + (-1 : Int32))), .val (.int (0 : Int32)), .unset, .val (.int ((-(2 : Int64)).toInt32))] [(.int (-((-(2 : Int64)).toInt32))), (.ref d1), (.int ((7 : Int32) + (-1 : Int32))), (.ref a3)])) rfl rfl (hb hby d32_155) _ ?_
    refine st4 _ ?_
    refine XS.iload X4.here hx rfl (hb hby d32_157) rfl ?_
    show Steps _ _ _ (T4.setTop (mkF m 159 #[.val (.long (-(2 : Int64))), .second, .val (.int (7 : Int32)), .val (.ref a3), .unset, .unset, .unset, .val (.int ((7 : Int32) + (-1 : Int32))), .val (.int (0 : Int32)), .unset, .val (.int ((-(2 : Int64)).toInt32))] [(.int ((-(2 : Int64)).toInt32))])) _
    refine XS.bipush X4.here hx rfl (hb hby d32_159) ?_
    refine XS.icmpYes X4.here hx rfl (pc0 := 161) (pc' := 178) rfl (hb hby d32_161) rfl (flt (by decide : ¬ (((-(2 : Int64)).toInt32) < (-9 : Int32)))).2.1 (by decide) (by decide) ?_
    refine XS.iload X4.here hx rfl (hb hby d32_178) rfl ?_
    refine XS.ifYes X4.here hx rfl (pc0 := 180) (pc' := 192) rfl (hb hby d32_180) rfl ((if0 _ _).trans (teq (rfl : (0 : Int32) = (0 : Int32))).1) (by decide) (by decide) ?_
    show Steps _ _ _ (T4.setTop (mkF m 192 #[.val (.long (-(2 : Int64))), .second, .val (.int (7 : Int32)), .val (.ref a3), .unset, .unset, .unset, .val (.int ((7 : Int32) + (-1 : Int32))), .val (.int (0 : Int32)), .unset, .val (.int ((-(2 : Int64)).toInt32))] [])) _
    refine XS.iload X4.here hx rfl (hb hby d32_192) rfl ?_
    show Steps _ _ _ (T4.setTop (mkF m 194 #[.val (.long (-(2 : Int64))), .second, .val (.int (7 : Int32)), .val (.ref a3), .unset, .unset, .unset, .val (.int ((7 : Int32) + (-1 : Int32))), .val (.int (0 : Int32)), .unset, .val (.int ((-(2 : Int64)).toInt32))] [(.int ((7 : Int32) + (-1 : Int32)))])) _
    exact retI X4 hx Bd.returns (hb hby d32_194) hr
  · show Qown_lgc2 Z a3 k vs nb d1 d2 kd1 kd2 vo vt h0 n0 _ T4.heap _
    rw [e4]
    exact ⟨_, rfl, N4, K4, _, by simp [hl], V4⟩
theorem ef_own_lgc3 (m : MethodId) (x0 : Int64) (x1 : Int32) (x2 : Addr) : entryFrame m #[(.long x0), (.int x1), (.ref x2)] 11 = mkF m 0 #[.val (.long x0), .second, .val (.int x1), .val (.ref x2), .unset, .unset, .unset, .unset, .unset, .unset, .unset] [] := by first | (simp [entryFrame, mkF, argsToLocals, Value.category]; done) | rfl
def Qown_lgc3 (Z : State) (a3 : Addr) (k : ClassId) (vs : List Value) (nb : Nat) (d1 : Addr) (d2 : Addr) (kd1 : ClassId) (kd2 : ClassId) (vo : List Value) (vt : List Value) (h0 : Heap) (n0 : Nat) (v : Option Value) (h : Heap) (L : List Loc) : Prop := (∃ u : Int32, v = some (.int u) ∧ Fr n0 L ∧ Keep h0 h [a3] ∧ ∃ vs2 : List Value, vs2.length = 16 ∧ Arv Z h a3 k .byte (16 : Int32) vs2 (.int (0 : Int32)))
theorem own_lgc3 (l : Launch) (Z : State) (a0 : Array Value) (hw : ∀ d ∈ tables_1, d.before a0 Z = true) (ws : List Jvm.Cond) (a3 : Addr) (k : ClassId) (vs : List Value) (nb : Nat) (d1 : Addr) (d2 : Addr) (kd1 : ClassId) (kd2 : ClassId) (vo : List Value) (vt : List Value) (h0 : Heap) (n0 : Nat) (Z0 : n0 ≤ h0.size) (V1 : Arv Z h0 a3 k .byte (16 : Int32) vs (.int (0 : Int32))) (hl : vs.length = 16) (w_a3 : nb ≤ a3) (hn1 : n0 ≤ nb) (SO : own_S Z h0 nb "java/lang/Integer" "DigitOnes" "[B" (.ref d1)) (ST : own_S Z h0 nb "java/lang/Integer" "DigitTens" "[B" (.ref d2)) (VO : Arv Z h0 d1 kd1 .byte (100 : Int32) vo (.int (0 : Int32))) (VT : Arv Z h0 d2 kd2 .byte (100 : Int32) vt (.int (0 : Int32))) (hd1 : d1 < nb) (hd2 : d2 < nb) :
    MetFree l mn24 (head1 (Jvm.Cond.code mn24 jdk_35_method_14_code 11 (some .int) :: ws) (⟨0, 0, 0, 0⟩ : Room)) (fun a U => a = #[(.long (3 : Int64)), (.int (7 : Int32)), (.ref a3)] ∧ Z.Warmed39 U.vm ∧ U.heap = h0) (fun _ _ _ _ _ => True) (fun _ U o U' => ∃ v L, o = .returned v ∧ Qown_lgc3 Z a3 k vs nb d1 d2 kd1 kd2 vo vt h0 n0 v U'.heap L ∧ FrameEnd U o U' L (⟨0, 0, 0, 0⟩ : Room).cells (⟨0, 0, 0, 0⟩ : Room).slots) := by
  refine MetFree.of_bodySF (plainFor_of_name pn_java_lang_Long) hisR ?_
  intro p e s m args below meth c s₁ Bd hml0 hP hK
  obtain ⟨rfl, hZ, hh⟩ := hP
  have hx := Bd.exec
  have hby := Bd.bytes
  have hml : c.maxLocals = 11 := hml0
  have hown : s.vm.findClass "java/lang/Long" = some m.cls := findClass_of_methodNamed Bd.named
  have hnm := (name_of_methodNamed Bd.named Bd.method).1
  have X0 : Stand p l e (⟨0, 0, 0, 0⟩ : Room) s m #[(.long (3 : Int64)), (.int (7 : Int32)), (.ref a3)] below meth c s₁ [] 0 0 := Stand.of_body Bd
  have e0 : s₁.heap = h0 := by rw [← hh, Bd.state]; rfl
  have N0 := Fr.nil n0
  have pre0 : ∀ t, Steps p.tables e below (s₁.setTop (mkF m 0 #[.val (.long (3 : Int64)), .second, .val (.int (7 : Int32)), .val (.ref a3), .unset, .unset, .unset, .unset, .unset, .unset, .unset] [])) t → Steps p.tables e below (s₁.setTop (entryFrame m #[(.long (3 : Int64)), (.int (7 : Int32)), (.ref a3)] 11)) t := fun t k => castTop (ef_own_lgc3 m ((3 : Int64)) ((7 : Int32)) (a3)) k
  have g_a3 := Nat.le_trans hn1 w_a3
  have nd1 : d1 ≠ a3 := Nat.ne_of_lt (Nat.lt_of_lt_of_le hd1 w_a3)
  have nd2 : d2 ≠ a3 := Nat.ne_of_lt (Nat.lt_of_lt_of_le hd2 w_a3)
  obtain ⟨u1, hu1⟩ := own_byte VO (i := 3) (by decide)
  obtain ⟨u2, hu2⟩ := own_byte VT (i := 3) (by decide)
  obtain ⟨T1, X1, e1, st1⟩ := getS2 X0 hx hZ hown (host := "") (Or.inl (wJ hw 225 rfl)) Via.refl e0 SO.sta (g := (mkF m 149 #[.val (.long (-(3 : Int64))), .second, .val (.int (7 : Int32)), .val (.ref a3), .unset, .unset, .unset, .val (.int ((7 : Int32) + (-1 : Int32))), .val (.int (0 : Int32)), .unset, .val (.int ((-(3 : Int64)).toInt32))] [(.int ((7 : Int32) + (-1 : Int32))), (.ref a3)])) rfl (hb hby d32_149)
  obtain ⟨cl2, Ar2, qc2, S2, Nn2, H2, G2⟩ := id VO
  have hin2 : ¬ ((-((-(3 : Int64)).toInt32)) < 0 ∨ cl2.slots.size ≤ ((-((-(3 : Int64)).toInt32))).toNatClampNeg) := inb_of S2 ⟨by decide, by decide⟩
  have hat2 : cl2.slots[((-((-(3 : Int64)).toInt32))).toNatClampNeg]? = some (.int u1) := H2.at hin2 (hu1)
  obtain ⟨cl3, Ar3, qc3, S3, Nn3, H3, G3⟩ := id V1
  have hin3 : ¬ (((7 : Int32) + (-1 : Int32)) < 0 ∨ cl3.slots.size ≤ (((7 : Int32) + (-1 : Int32))).toNatClampNeg) := inb_of S3 ⟨by decide, by decide⟩
  obtain ⟨T4, h4, X4, e4, W4, st4⟩ := stB X1 hx hZ e1 Ar3 (j := ((7 : Int32) + (-1 : Int32))) hin3 (g := (mkF m 156 #[.val (.long (-(3 : Int64))), .second, .val (.int (7 : Int32)), .val (.ref a3), .unset, .unset, .unset, .val (.int ((7 : Int32) + (-1 : Int32))), .val (.int (0 : Int32)), .unset, .val (.int ((-(3 : Int64)).toInt32))] [(.int u1), (.int ((7 : Int32) + (-1 : Int32))), (.ref a3)])) rfl rfl (hb hby d32_156)
  have V4 : Arv Z h4 a3 k .byte (16 : Int32) (vs.set 6 (.int (nar .byte u1))) (.int (0 : Int32)) := Arv.set Ar3 qc3 S3 Nn3 H3 G3 (fits_nar_byte _) W4 6 rfl (by rw [hl]; decide)
  have K4 : Keep h0 h4 [a3] := (Keep.refl h0 [a3]).wr W4 (Or.inl (wI 0 rfl))
  have N4 := Fr.snoc X4 N0 g_a3
  have Z4 : n0 ≤ h4.size := Nat.le_trans Z0 (Keep.of_wr W4).1
  obtain ⟨fs, hr, hrun, hended, hW, hsame⟩ := X4.leave (v := some (.int ((7 : Int32) + (-1 : Int32)))) (fun h => by rw [Bd.returns] at h; cases h)
  refine ⟨_, _, pre0 _ ?_, hrun, hended, _, _, rfl, ?_, ⟨_, rfl⟩, hW, hsame.mono (by decide) (by decide)⟩
  · show Steps p.tables e below (s₁.setTop (mkF m 0 #[.val (.long (3 : Int64)), .second, .val (.int (7 : Int32)), .val (.ref a3), .unset, .unset, .unset, .unset, .unset, .unset, .unset] [])) _
    refine XS.iloadN X0.here hx rfl (hb hby d32_0) rfl ?_
    refine XS.istore X0.here hx rfl (hb hby d32_1) rfl (l' := #[.val (.long (3 : Int64)), .second, .val (.int (7 : Int32)), .val (.ref a3), .unset, .unset, .unset, .val (.int (7 : Int32)), .unset, .unset, .unset]) rfl ?_
    refine XS.lloadN X0.here hx rfl (hb hby d32_3) rfl ?_
    refine XS.lconst X0.here hx rfl (hb hby d32_4) ?_
    show Steps _ _ _ (s₁.setTop (mkF m 5 #[.val (.long (3 : Int64)), .second, .val (.int (7 : Int32)), .val (.ref a3), .unset, .unset, .unset, .val (.int (7 : Int32)), .unset, .unset, .unset] [(.long (0 : Int64)), (.long (3 : Int64))])) _
    refine XS.lcmp X0.here hx rfl (hb hby d32_5) rfl ?_
    refine XS.ifYes X0.here hx rfl (pc0 := 6) (pc' := 13) rfl (hb hby d32_6) rfl ((if0 _ _).trans (flt (fun q => ((by decide : ¬ ((3 : Int64) < (0 : Int64)))) ((lw_lt _ _).mp q) : ¬ ((lcmpW (3 : Int64) (0 : Int64)) < (0 : Int32)))).2.1) (by decide) (by decide) ?_
    refine XS.iconst X0.here hx rfl (hb hby d32_13) ?_
    refine XS.istore X0.here hx rfl (hb hby d32_14) rfl (l' := #[.val (.long (3 : Int64)), .second, .val (.int (7 : Int32)), .val (.ref a3), .unset, .unset, .unset, .val (.int (7 : Int32)), .val (.int (0 : Int32)), .unset, .unset]) rfl ?_
    show Steps _ _ _ (s₁.setTop (mkF m 16 #[.val (.long (3 : Int64)), .second, .val (.int (7 : Int32)), .val (.ref a3), .unset, .unset, .unset, .val (.int (7 : Int32)), .val (.int (0 : Int32)), .unset, .unset] [])) _
    refine XS.iload X0.here hx rfl (hb hby d32_16) rfl ?_
    refine XS.ifNo X0.here hx rfl (hb hby d32_18) rfl ((if0 _ _).trans (teq (rfl : (0 : Int32) = (0 : Int32))).2) ?_
    refine XS.lloadN X0.here hx rfl (hb hby d32_21) rfl ?_
    refine XS.lneg X0.here hx rfl (hb hby d32_22) rfl ?_
    show Steps _ _ _ (s₁.setTop (mkF m 23 #[.val (.long (3 : Int64)), .second, .val (.int (7 : Int32)), .val (.ref a3), .unset, .unset, .unset, .val (.int (7 : Int32)), .val (.int (0 : Int32)), .unset, .unset] [(.long (-(3 : Int64)))])) _
    refine XS.lstoreN X0.here hx rfl (hb hby d32_23) rfl (l' := #[.val (.long (-(3 : Int64))), .second, .val (.int (7 : Int32)), .val (.ref a3), .unset, .unset, .unset, .val (.int (7 : Int32)), .val (.int (0 : Int32)), .unset, .unset]) rfl ?_
    refine XS.lloadN X0.here hx rfl (hb hby d32_24) rfl ?_
    refine X0.ldc2Long hx hown (mvT hZ (wJ hw 224 rfl)) (g := (mkF m 25 #[.val (.long (-(3 : Int64))), .second, .val (.int (7 : Int32)), .val (.ref a3), .unset, .unset, .unset, .val (.int (7 : Int32)), .val (.int (0 : Int32)), .unset, .unset] [(.long (-(3 : Int64)))])) rfl (hb hby d32_25) _ ?_
    refine XS.lcmp X0.here hx rfl (hb hby d32_28) rfl ?_
    show Steps _ _ _ (s₁.setTop (mkF m 29 #[.val (.long (-(3 : Int64))), .second, .val (.int (7 : Int32)), .val (.ref a3), .unset, .unset, .unset, .val (.int (7 : Int32)), .val (.int (0 : Int32)), .unset, .unset] [(.int (lcmpW (-(3 : Int64)) (-2147483648 : Int64)))])) _
    refine XS.ifYes X0.here hx rfl (pc0 := 29) (pc' := 82) rfl (hb hby d32_29) rfl ((if0 _ _).trans (tlt ((lw_gt _ _).mpr ((by decide : (-2147483648 : Int64) < (-(3 : Int64)))) : (0 : Int32) < (lcmpW (-(3 : Int64)) (-2147483648 : Int64)))).2.2.1) (by decide) (by decide) ?_
    refine XS.lloadN X0.here hx rfl (hb hby d32_82) rfl ?_
    refine XS.l2i X0.here hx rfl (hb hby d32_83) rfl ?_
    refine XS.istore X0.here hx rfl (hb hby d32_84) rfl (l' := #[.val (.long (-(3 : Int64))), .second, .val (.int (7 : Int32)), .val (.ref a3), .unset, .unset, .unset, .val (.int (7 : Int32)), .val (.int (0 : Int32)), .unset, .val (.int ((-(3 : Int64)).toInt32))]) rfl ?_
    show Steps _ _ _ (s₁.setTop (mkF m 86 #[.val (.long (-(3 : Int64))), .second, .val (.int (7 : Int32)), .val (.ref a3), .unset, .unset, .unset, .val (.int (7 : Int32)), .val (.int (0 : Int32)), .unset, .val (.int ((-(3 : Int64)).toInt32))] [])) _
    refine XS.iload X0.here hx rfl (hb hby d32_86) rfl ?_
    refine XS.bipush X0.here hx rfl (hb hby d32_88) ?_
    refine XS.icmpYes X0.here hx rfl (pc0 := 90) (pc' := 143) rfl (hb hby d32_90) rfl (tlt (by decide : (-100 : Int32) < ((-(3 : Int64)).toInt32))).2.2.1 (by decide) (by decide) ?_
    refine XS.aloadN X0.here hx rfl (hb hby d32_143) rfl rfl ?_
    show Steps _ _ _ (s₁.setTop (mkF m 144 #[.val (.long (-(3 : Int64))), .second, .val (.int (7 : Int32)), .val (.ref a3), .unset, .unset, .unset, .val (.int (7 : Int32)), .val (.int (0 : Int32)), .unset, .val (.int ((-(3 : Int64)).toInt32))] [(.ref a3)])) _
    refine XS.iinc X0.here hx rfl (hb hby d32_144) rfl (l' := #[.val (.long (-(3 : Int64))), .second, .val (.int (7 : Int32)), .val (.ref a3), .unset, .unset, .unset, .val (.int ((7 : Int32) + (-1 : Int32))), .val (.int (0 : Int32)), .unset, .val (.int ((-(3 : Int64)).toInt32))]) rfl ?_
    refine XS.iload X0.here hx rfl (hb hby d32_147) rfl ?_
    refine st1 _ ?_
    refine XS.iload X1.here hx rfl (hb hby d32_152) rfl ?_
    show Steps _ _ _ (T1.setTop (mkF m 154 #[.val (.long (-(3 : Int64))), .second, .val (.int (7 : Int32)), .val (.ref a3), .unset, .unset, .unset, .val (.int ((7 : Int32) + (-1 : Int32))), .val (.int (0 : Int32)), .unset, .val (.int ((-(3 : Int64)).toInt32))] [(.int ((-(3 : Int64)).toInt32)), (.ref d1), (.int ((7 : Int32) + (-1 : Int32))), (.ref a3)])) _
    refine XS.ineg X1.here hx rfl (hb hby d32_154) rfl ?_
    refine X1.baloadBytes hx (j := (-((-(3 : Int64)).toInt32))) (v := (.int u1)) (by rw [e1]; exact Ar2.1) (State.isArrayOf_alike hZ.alike Ar2.2.1) Ar2.2.2 hin2 hat2 (g := (mkF m 155 #[.val (.long (-(3 : Int64))), .second, .val (.int (7 : Int32)), .val (.ref a3), .unset, .unset, .unset, .val (.int ((7 : Int32) + (-1 : Int32))), .val (.int (0 : Int32)), .unset, .val (.int ((-(3 : Int64)).toInt32))] [(.int (-((-(3 : Int64)).toInt32))), (.ref d1), (.int ((7 : Int32) + (-1 : Int32))), (.ref a3)])) rfl rfl (hb hby d32_155) _ ?_
    refine st4 _ ?_
    refine XS.iload X4.here hx rfl (hb hby d32_157) rfl ?_
    show Steps _ _ _ (T4.setTop (mkF m 159 #[.val (.long (-(3 : Int64))), .second, .val (.int (7 : Int32)), .val (.ref a3), .unset, .unset, .unset, .val (.int ((7 : Int32) + (-1 : Int32))), .val (.int (0 : Int32)), .unset, .val (.int ((-(3 : Int64)).toInt32))] [(.int ((-(3 : Int64)).toInt32))])) _
    refine XS.bipush X4.here hx rfl (hb hby d32_159) ?_
    refine XS.icmpYes X4.here hx rfl (pc0 := 161) (pc' := 178) rfl (hb hby d32_161) rfl (flt (by decide : ¬ (((-(3 : Int64)).toInt32) < (-9 : Int32)))).2.1 (by decide) (by decide) ?_
    refine XS.iload X4.here hx rfl (hb hby d32_178) rfl ?_
    refine XS.ifYes X4.here hx rfl (pc0 := 180) (pc' := 192) rfl (hb hby d32_180) rfl ((if0 _ _).trans (teq (rfl : (0 : Int32) = (0 : Int32))).1) (by decide) (by decide) ?_
    show Steps _ _ _ (T4.setTop (mkF m 192 #[.val (.long (-(3 : Int64))), .second, .val (.int (7 : Int32)), .val (.ref a3), .unset, .unset, .unset, .val (.int ((7 : Int32) + (-1 : Int32))), .val (.int (0 : Int32)), .unset, .val (.int ((-(3 : Int64)).toInt32))] [])) _
    refine XS.iload X4.here hx rfl (hb hby d32_192) rfl ?_
    show Steps _ _ _ (T4.setTop (mkF m 194 #[.val (.long (-(3 : Int64))), .second, .val (.int (7 : Int32)), .val (.ref a3), .unset, .unset, .unset, .val (.int ((7 : Int32) + (-1 : Int32))), .val (.int (0 : Int32)), .unset, .val (.int ((-(3 : Int64)).toInt32))] [(.int ((7 : Int32) + (-1 : Int32)))])) _
    exact retI X4 hx Bd.returns (hb hby d32_194) hr
  · show Qown_lgc3 Z a3 k vs nb d1 d2 kd1 kd2 vo vt h0 n0 _ T4.heap _
    rw [e4]
    exact ⟨_, rfl, N4, K4, _, by simp [hl], V4⟩
theorem d32_164 : decode c32 164 = .ok (.aload_n 3, 1) := by decide +kernel
theorem d32_165 : decode c32 165 = .ok (.iinc 7 (-1), 3) := by decide +kernel
theorem d32_168 : decode c32 168 = .ok (.iload 7, 2) := by decide +kernel
theorem d32_170 : decode c32 170 = .ok (.getstatic 137, 3) := by decide +kernel
theorem d32_173 : decode c32 173 = .ok (.iload 10, 2) := by decide +kernel
theorem d32_175 : decode c32 175 = .ok (.ineg, 1) := by decide +kernel
theorem d32_176 : decode c32 176 = .ok (.baload, 1) := by decide +kernel
theorem d32_177 : decode c32 177 = .ok (.bastore, 1) := by decide +kernel
theorem ef_own_lgc10 (m : MethodId) (x0 : Int64) (x1 : Int32) (x2 : Addr) : entryFrame m #[(.long x0), (.int x1), (.ref x2)] 11 = mkF m 0 #[.val (.long x0), .second, .val (.int x1), .val (.ref x2), .unset, .unset, .unset, .unset, .unset, .unset, .unset] [] := by first | (simp [entryFrame, mkF, argsToLocals, Value.category]; done) | rfl
def Qown_lgc10 (Z : State) (a3 : Addr) (k : ClassId) (vs : List Value) (nb : Nat) (d1 : Addr) (d2 : Addr) (kd1 : ClassId) (kd2 : ClassId) (vo : List Value) (vt : List Value) (h0 : Heap) (n0 : Nat) (v : Option Value) (h : Heap) (L : List Loc) : Prop := (∃ u : Int32, v = some (.int u) ∧ Fr n0 L ∧ Keep h0 h [a3] ∧ ∃ vs2 : List Value, vs2.length = 16 ∧ Arv Z h a3 k .byte (16 : Int32) vs2 (.int (0 : Int32)))
theorem own_lgc10 (l : Launch) (Z : State) (a0 : Array Value) (hw : ∀ d ∈ tables_1, d.before a0 Z = true) (ws : List Jvm.Cond) (a3 : Addr) (k : ClassId) (vs : List Value) (nb : Nat) (d1 : Addr) (d2 : Addr) (kd1 : ClassId) (kd2 : ClassId) (vo : List Value) (vt : List Value) (h0 : Heap) (n0 : Nat) (Z0 : n0 ≤ h0.size) (V1 : Arv Z h0 a3 k .byte (16 : Int32) vs (.int (0 : Int32))) (hl : vs.length = 16) (w_a3 : nb ≤ a3) (hn1 : n0 ≤ nb) (SO : own_S Z h0 nb "java/lang/Integer" "DigitOnes" "[B" (.ref d1)) (ST : own_S Z h0 nb "java/lang/Integer" "DigitTens" "[B" (.ref d2)) (VO : Arv Z h0 d1 kd1 .byte (100 : Int32) vo (.int (0 : Int32))) (VT : Arv Z h0 d2 kd2 .byte (100 : Int32) vt (.int (0 : Int32))) (hd1 : d1 < nb) (hd2 : d2 < nb) :
    MetFree l mn24 (head1 (Jvm.Cond.code mn24 jdk_35_method_14_code 11 (some .int) :: ws) (⟨0, 0, 0, 0⟩ : Room)) (fun a U => a = #[(.long (10 : Int64)), (.int (16 : Int32)), (.ref a3)] ∧ Z.Warmed39 U.vm ∧ U.heap = h0) (fun _ _ _ _ _ => True) (fun _ U o U' => ∃ v L, o = .returned v ∧ Qown_lgc10 Z a3 k vs nb d1 d2 kd1 kd2 vo vt h0 n0 v U'.heap L ∧ FrameEnd U o U' L (⟨0, 0, 0, 0⟩ : Room).cells (⟨0, 0, 0, 0⟩ : Room).slots) := by
  refine MetFree.of_bodySF (plainFor_of_name pn_java_lang_Long) hisR ?_
  intro p e s m args below meth c s₁ Bd hml0 hP hK
  obtain ⟨rfl, hZ, hh⟩ := hP
  have hx := Bd.exec
  have hby := Bd.bytes
  have hml : c.maxLocals = 11 := hml0
  have hown : s.vm.findClass "java/lang/Long" = some m.cls := findClass_of_methodNamed Bd.named
  have hnm := (name_of_methodNamed Bd.named Bd.method).1
  have X0 : Stand p l e (⟨0, 0, 0, 0⟩ : Room) s m #[(.long (10 : Int64)), (.int (16 : Int32)), (.ref a3)] below meth c s₁ [] 0 0 := Stand.of_body Bd
  have e0 : s₁.heap = h0 := by rw [← hh, Bd.state]; rfl
  have N0 := Fr.nil n0
  have pre0 : ∀ t, Steps p.tables e below (s₁.setTop (mkF m 0 #[.val (.long (10 : Int64)), .second, .val (.int (16 : Int32)), .val (.ref a3), .unset, .unset, .unset, .unset, .unset, .unset, .unset] [])) t → Steps p.tables e below (s₁.setTop (entryFrame m #[(.long (10 : Int64)), (.int (16 : Int32)), (.ref a3)] 11)) t := fun t k => castTop (ef_own_lgc10 m ((10 : Int64)) ((16 : Int32)) (a3)) k
  have g_a3 := Nat.le_trans hn1 w_a3
  have nd1 : d1 ≠ a3 := Nat.ne_of_lt (Nat.lt_of_lt_of_le hd1 w_a3)
  have nd2 : d2 ≠ a3 := Nat.ne_of_lt (Nat.lt_of_lt_of_le hd2 w_a3)
  obtain ⟨u1, hu1⟩ := own_byte VO (i := 10) (by decide)
  obtain ⟨u2, hu2⟩ := own_byte VT (i := 10) (by decide)
  obtain ⟨T1, X1, e1, st1⟩ := getS2 X0 hx hZ hown (host := "") (Or.inl (wJ hw 225 rfl)) Via.refl e0 SO.sta (g := (mkF m 149 #[.val (.long (-(10 : Int64))), .second, .val (.int (16 : Int32)), .val (.ref a3), .unset, .unset, .unset, .val (.int ((16 : Int32) + (-1 : Int32))), .val (.int (0 : Int32)), .unset, .val (.int ((-(10 : Int64)).toInt32))] [(.int ((16 : Int32) + (-1 : Int32))), (.ref a3)])) rfl (hb hby d32_149)
  obtain ⟨cl2, Ar2, qc2, S2, Nn2, H2, G2⟩ := id VO
  have hin2 : ¬ ((-((-(10 : Int64)).toInt32)) < 0 ∨ cl2.slots.size ≤ ((-((-(10 : Int64)).toInt32))).toNatClampNeg) := inb_of S2 ⟨by decide, by decide⟩
  have hat2 : cl2.slots[((-((-(10 : Int64)).toInt32))).toNatClampNeg]? = some (.int u1) := H2.at hin2 (hu1)
  obtain ⟨cl3, Ar3, qc3, S3, Nn3, H3, G3⟩ := id V1
  have hin3 : ¬ (((16 : Int32) + (-1 : Int32)) < 0 ∨ cl3.slots.size ≤ (((16 : Int32) + (-1 : Int32))).toNatClampNeg) := inb_of S3 ⟨by decide, by decide⟩
  obtain ⟨T4, h4, X4, e4, W4, st4⟩ := stB X1 hx hZ e1 Ar3 (j := ((16 : Int32) + (-1 : Int32))) hin3 (g := (mkF m 156 #[.val (.long (-(10 : Int64))), .second, .val (.int (16 : Int32)), .val (.ref a3), .unset, .unset, .unset, .val (.int ((16 : Int32) + (-1 : Int32))), .val (.int (0 : Int32)), .unset, .val (.int ((-(10 : Int64)).toInt32))] [(.int u1), (.int ((16 : Int32) + (-1 : Int32))), (.ref a3)])) rfl rfl (hb hby d32_156)
  have V4 : Arv Z h4 a3 k .byte (16 : Int32) (vs.set 15 (.int (nar .byte u1))) (.int (0 : Int32)) := Arv.set Ar3 qc3 S3 Nn3 H3 G3 (fits_nar_byte _) W4 15 rfl (by rw [hl]; decide)
  have K4 : Keep h0 h4 [a3] := (Keep.refl h0 [a3]).wr W4 (Or.inl (wI 0 rfl))
  have N4 := Fr.snoc X4 N0 g_a3
  have Z4 : n0 ≤ h4.size := Nat.le_trans Z0 (Keep.of_wr W4).1
  have STb : Sta Z h4 "java/lang/Integer" "DigitTens" "[B" (.ref d2) := ST.sta.wr W4
  obtain ⟨T5, X5, e5, st5⟩ := getS2 X4 hx hZ hown (host := "") (Or.inl (wJ hw 229 rfl)) Via.refl e4 STb (g := (mkF m 170 #[.val (.long (-(10 : Int64))), .second, .val (.int (16 : Int32)), .val (.ref a3), .unset, .unset, .unset, .val (.int (((16 : Int32) + (-1 : Int32)) + (-1 : Int32))), .val (.int (0 : Int32)), .unset, .val (.int ((-(10 : Int64)).toInt32))] [(.int (((16 : Int32) + (-1 : Int32)) + (-1 : Int32))), (.ref a3)])) rfl (hb hby d32_170)
  have fc7 := (VT.other W4 nd2)
  obtain ⟨cl6, Ar6, qc6, S6, Nn6, H6, G6⟩ := id fc7
  have hin6 : ¬ ((-((-(10 : Int64)).toInt32)) < 0 ∨ cl6.slots.size ≤ ((-((-(10 : Int64)).toInt32))).toNatClampNeg) := inb_of S6 ⟨by decide, by decide⟩
  have hat6 : cl6.slots[((-((-(10 : Int64)).toInt32))).toNatClampNeg]? = some (.int u2) := H6.at hin6 (hu2)
  obtain ⟨cl8, Ar8, qc8, S8, Nn8, H8, G8⟩ := id V4
  have hin8 : ¬ ((((16 : Int32) + (-1 : Int32)) + (-1 : Int32)) < 0 ∨ cl8.slots.size ≤ ((((16 : Int32) + (-1 : Int32)) + (-1 : Int32))).toNatClampNeg) := inb_of S8 ⟨by decide, by decide⟩
  obtain ⟨T9, h9, X9, e9, W9, st9⟩ := stB X5 hx hZ e5 Ar8 (j := (((16 : Int32) + (-1 : Int32)) + (-1 : Int32))) hin8 (g := (mkF m 177 #[.val (.long (-(10 : Int64))), .second, .val (.int (16 : Int32)), .val (.ref a3), .unset, .unset, .unset, .val (.int (((16 : Int32) + (-1 : Int32)) + (-1 : Int32))), .val (.int (0 : Int32)), .unset, .val (.int ((-(10 : Int64)).toInt32))] [(.int u2), (.int (((16 : Int32) + (-1 : Int32)) + (-1 : Int32))), (.ref a3)])) rfl rfl (hb hby d32_177)
  have V9 : Arv Z h9 a3 k .byte (16 : Int32) ((vs.set 15 (.int (nar .byte u1))).set 14 (.int (nar .byte u2))) (.int (0 : Int32)) := Arv.set Ar8 qc8 S8 Nn8 H8 G8 (fits_nar_byte _) W9 14 rfl (by rw [List.length_set, hl]; decide)
  have K9 : Keep h0 h9 [a3] := K4.wr W9 (Or.inl (wI 0 rfl))
  have N9 := Fr.snoc X9 N4 g_a3
  have Z9 : n0 ≤ h9.size := Nat.le_trans Z4 (Keep.of_wr W9).1
  obtain ⟨fs, hr, hrun, hended, hW, hsame⟩ := X9.leave (v := some (.int (((16 : Int32) + (-1 : Int32)) + (-1 : Int32)))) (fun h => by rw [Bd.returns] at h; cases h)
  refine ⟨_, _, pre0 _ ?_, hrun, hended, _, _, rfl, ?_, ⟨_, rfl⟩, hW, hsame.mono (by decide) (by decide)⟩
  · show Steps p.tables e below (s₁.setTop (mkF m 0 #[.val (.long (10 : Int64)), .second, .val (.int (16 : Int32)), .val (.ref a3), .unset, .unset, .unset, .unset, .unset, .unset, .unset] [])) _
    refine XS.iloadN X0.here hx rfl (hb hby d32_0) rfl ?_
    refine XS.istore X0.here hx rfl (hb hby d32_1) rfl (l' := #[.val (.long (10 : Int64)), .second, .val (.int (16 : Int32)), .val (.ref a3), .unset, .unset, .unset, .val (.int (16 : Int32)), .unset, .unset, .unset]) rfl ?_
    refine XS.lloadN X0.here hx rfl (hb hby d32_3) rfl ?_
    refine XS.lconst X0.here hx rfl (hb hby d32_4) ?_
    show Steps _ _ _ (s₁.setTop (mkF m 5 #[.val (.long (10 : Int64)), .second, .val (.int (16 : Int32)), .val (.ref a3), .unset, .unset, .unset, .val (.int (16 : Int32)), .unset, .unset, .unset] [(.long (0 : Int64)), (.long (10 : Int64))])) _
    refine XS.lcmp X0.here hx rfl (hb hby d32_5) rfl ?_
    refine XS.ifYes X0.here hx rfl (pc0 := 6) (pc' := 13) rfl (hb hby d32_6) rfl ((if0 _ _).trans (flt (fun q => ((by decide : ¬ ((10 : Int64) < (0 : Int64)))) ((lw_lt _ _).mp q) : ¬ ((lcmpW (10 : Int64) (0 : Int64)) < (0 : Int32)))).2.1) (by decide) (by decide) ?_
    refine XS.iconst X0.here hx rfl (hb hby d32_13) ?_
    refine XS.istore X0.here hx rfl (hb hby d32_14) rfl (l' := #[.val (.long (10 : Int64)), .second, .val (.int (16 : Int32)), .val (.ref a3), .unset, .unset, .unset, .val (.int (16 : Int32)), .val (.int (0 : Int32)), .unset, .unset]) rfl ?_
    show Steps _ _ _ (s₁.setTop (mkF m 16 #[.val (.long (10 : Int64)), .second, .val (.int (16 : Int32)), .val (.ref a3), .unset, .unset, .unset, .val (.int (16 : Int32)), .val (.int (0 : Int32)), .unset, .unset] [])) _
    refine XS.iload X0.here hx rfl (hb hby d32_16) rfl ?_
    refine XS.ifNo X0.here hx rfl (hb hby d32_18) rfl ((if0 _ _).trans (teq (rfl : (0 : Int32) = (0 : Int32))).2) ?_
    refine XS.lloadN X0.here hx rfl (hb hby d32_21) rfl ?_
    refine XS.lneg X0.here hx rfl (hb hby d32_22) rfl ?_
    show Steps _ _ _ (s₁.setTop (mkF m 23 #[.val (.long (10 : Int64)), .second, .val (.int (16 : Int32)), .val (.ref a3), .unset, .unset, .unset, .val (.int (16 : Int32)), .val (.int (0 : Int32)), .unset, .unset] [(.long (-(10 : Int64)))])) _
    refine XS.lstoreN X0.here hx rfl (hb hby d32_23) rfl (l' := #[.val (.long (-(10 : Int64))), .second, .val (.int (16 : Int32)), .val (.ref a3), .unset, .unset, .unset, .val (.int (16 : Int32)), .val (.int (0 : Int32)), .unset, .unset]) rfl ?_
    refine XS.lloadN X0.here hx rfl (hb hby d32_24) rfl ?_
    refine X0.ldc2Long hx hown (mvT hZ (wJ hw 224 rfl)) (g := (mkF m 25 #[.val (.long (-(10 : Int64))), .second, .val (.int (16 : Int32)), .val (.ref a3), .unset, .unset, .unset, .val (.int (16 : Int32)), .val (.int (0 : Int32)), .unset, .unset] [(.long (-(10 : Int64)))])) rfl (hb hby d32_25) _ ?_
    refine XS.lcmp X0.here hx rfl (hb hby d32_28) rfl ?_
    show Steps _ _ _ (s₁.setTop (mkF m 29 #[.val (.long (-(10 : Int64))), .second, .val (.int (16 : Int32)), .val (.ref a3), .unset, .unset, .unset, .val (.int (16 : Int32)), .val (.int (0 : Int32)), .unset, .unset] [(.int (lcmpW (-(10 : Int64)) (-2147483648 : Int64)))])) _
    refine XS.ifYes X0.here hx rfl (pc0 := 29) (pc' := 82) rfl (hb hby d32_29) rfl ((if0 _ _).trans (tlt ((lw_gt _ _).mpr ((by decide : (-2147483648 : Int64) < (-(10 : Int64)))) : (0 : Int32) < (lcmpW (-(10 : Int64)) (-2147483648 : Int64)))).2.2.1) (by decide) (by decide) ?_
    refine XS.lloadN X0.here hx rfl (hb hby d32_82) rfl ?_
    refine XS.l2i X0.here hx rfl (hb hby d32_83) rfl ?_
    refine XS.istore X0.here hx rfl (hb hby d32_84) rfl (l' := #[.val (.long (-(10 : Int64))), .second, .val (.int (16 : Int32)), .val (.ref a3), .unset, .unset, .unset, .val (.int (16 : Int32)), .val (.int (0 : Int32)), .unset, .val (.int ((-(10 : Int64)).toInt32))]) rfl ?_
    show Steps _ _ _ (s₁.setTop (mkF m 86 #[.val (.long (-(10 : Int64))), .second, .val (.int (16 : Int32)), .val (.ref a3), .unset, .unset, .unset, .val (.int (16 : Int32)), .val (.int (0 : Int32)), .unset, .val (.int ((-(10 : Int64)).toInt32))] [])) _
    refine XS.iload X0.here hx rfl (hb hby d32_86) rfl ?_
    refine XS.bipush X0.here hx rfl (hb hby d32_88) ?_
    refine XS.icmpYes X0.here hx rfl (pc0 := 90) (pc' := 143) rfl (hb hby d32_90) rfl (tlt (by decide : (-100 : Int32) < ((-(10 : Int64)).toInt32))).2.2.1 (by decide) (by decide) ?_
    refine XS.aloadN X0.here hx rfl (hb hby d32_143) rfl rfl ?_
    show Steps _ _ _ (s₁.setTop (mkF m 144 #[.val (.long (-(10 : Int64))), .second, .val (.int (16 : Int32)), .val (.ref a3), .unset, .unset, .unset, .val (.int (16 : Int32)), .val (.int (0 : Int32)), .unset, .val (.int ((-(10 : Int64)).toInt32))] [(.ref a3)])) _
    refine XS.iinc X0.here hx rfl (hb hby d32_144) rfl (l' := #[.val (.long (-(10 : Int64))), .second, .val (.int (16 : Int32)), .val (.ref a3), .unset, .unset, .unset, .val (.int ((16 : Int32) + (-1 : Int32))), .val (.int (0 : Int32)), .unset, .val (.int ((-(10 : Int64)).toInt32))]) rfl ?_
    refine XS.iload X0.here hx rfl (hb hby d32_147) rfl ?_
    refine st1 _ ?_
    refine XS.iload X1.here hx rfl (hb hby d32_152) rfl ?_
    show Steps _ _ _ (T1.setTop (mkF m 154 #[.val (.long (-(10 : Int64))), .second, .val (.int (16 : Int32)), .val (.ref a3), .unset, .unset, .unset, .val (.int ((16 : Int32) + (-1 : Int32))), .val (.int (0 : Int32)), .unset, .val (.int ((-(10 : Int64)).toInt32))] [(.int ((-(10 : Int64)).toInt32)), (.ref d1), (.int ((16 : Int32) + (-1 : Int32))), (.ref a3)])) _
    refine XS.ineg X1.here hx rfl (hb hby d32_154) rfl ?_
    refine X1.baloadBytes hx (j := (-((-(10 : Int64)).toInt32))) (v := (.int u1)) (by rw [e1]; exact Ar2.1) (State.isArrayOf_alike hZ.alike Ar2.2.1) Ar2.2.2 hin2 hat2 (g := (mkF m 155 #[.val (.long (-(10 : Int64))), .second, .val (.int (16 : Int32)), .val (.ref a3), .unset, .unset, .unset, .val (.int ((16 : Int32) + (-1 : Int32))), .val (.int (0 : Int32)), .unset, .val (.int ((-(10 : Int64)).toInt32))] [(.int (-((-(10 : Int64)).toInt32))), (.ref d1), (.int ((16 : Int32) + (-1 : Int32))), (.ref a3)])) rfl rfl (hb hby d32_155) _ ?_
    refine st4 _ ?_
    refine XS.iload X4.here hx rfl (hb hby d32_157) rfl ?_
    show Steps _ _ _ (T4.setTop (mkF m 159 #[.val (.long (-(10 : Int64))), .second, .val (.int (16 : Int32)), .val (.ref a3), .unset, .unset, .unset, .val (.int ((16 : Int32) + (-1 : Int32))), .val (.int (0 : Int32)), .unset, .val (.int ((-(10 : Int64)).toInt32))] [(.int ((-(10 : Int64)).toInt32))])) _
    refine XS.bipush X4.here hx rfl (hb hby d32_159) ?_
    refine XS.icmpNo X4.here hx rfl (hb hby d32_161) rfl (tlt (by decide : ((-(10 : Int64)).toInt32) < (-9 : Int32))).2.1 ?_
    refine XS.aloadN X4.here hx rfl (hb hby d32_164) rfl rfl ?_
    refine XS.iinc X4.here hx rfl (hb hby d32_165) rfl (l' := #[.val (.long (-(10 : Int64))), .second, .val (.int (16 : Int32)), .val (.ref a3), .unset, .unset, .unset, .val (.int (((16 : Int32) + (-1 : Int32)) + (-1 : Int32))), .val (.int (0 : Int32)), .unset, .val (.int ((-(10 : Int64)).toInt32))]) rfl ?_
    show Steps _ _ _ (T4.setTop (mkF m 168 #[.val (.long (-(10 : Int64))), .second, .val (.int (16 : Int32)), .val (.ref a3), .unset, .unset, .unset, .val (.int (((16 : Int32) + (-1 : Int32)) + (-1 : Int32))), .val (.int (0 : Int32)), .unset, .val (.int ((-(10 : Int64)).toInt32))] [(.ref a3)])) _
    refine XS.iload X4.here hx rfl (hb hby d32_168) rfl ?_
    refine st5 _ ?_
    refine XS.iload X5.here hx rfl (hb hby d32_173) rfl ?_
    refine XS.ineg X5.here hx rfl (hb hby d32_175) rfl ?_
    show Steps _ _ _ (T5.setTop (mkF m 176 #[.val (.long (-(10 : Int64))), .second, .val (.int (16 : Int32)), .val (.ref a3), .unset, .unset, .unset, .val (.int (((16 : Int32) + (-1 : Int32)) + (-1 : Int32))), .val (.int (0 : Int32)), .unset, .val (.int ((-(10 : Int64)).toInt32))] [(.int (-((-(10 : Int64)).toInt32))), (.ref d2), (.int (((16 : Int32) + (-1 : Int32)) + (-1 : Int32))), (.ref a3)])) _
    refine X5.baloadBytes hx (j := (-((-(10 : Int64)).toInt32))) (v := (.int u2)) (by rw [e5]; exact Ar6.1) (State.isArrayOf_alike hZ.alike Ar6.2.1) Ar6.2.2 hin6 hat6 (g := (mkF m 176 #[.val (.long (-(10 : Int64))), .second, .val (.int (16 : Int32)), .val (.ref a3), .unset, .unset, .unset, .val (.int (((16 : Int32) + (-1 : Int32)) + (-1 : Int32))), .val (.int (0 : Int32)), .unset, .val (.int ((-(10 : Int64)).toInt32))] [(.int (-((-(10 : Int64)).toInt32))), (.ref d2), (.int (((16 : Int32) + (-1 : Int32)) + (-1 : Int32))), (.ref a3)])) rfl rfl (hb hby d32_176) _ ?_
    refine st9 _ ?_
    refine XS.iload X9.here hx rfl (hb hby d32_178) rfl ?_
    refine XS.ifYes X9.here hx rfl (pc0 := 180) (pc' := 192) rfl (hb hby d32_180) rfl ((if0 _ _).trans (teq (rfl : (0 : Int32) = (0 : Int32))).1) (by decide) (by decide) ?_
    show Steps _ _ _ (T9.setTop (mkF m 192 #[.val (.long (-(10 : Int64))), .second, .val (.int (16 : Int32)), .val (.ref a3), .unset, .unset, .unset, .val (.int (((16 : Int32) + (-1 : Int32)) + (-1 : Int32))), .val (.int (0 : Int32)), .unset, .val (.int ((-(10 : Int64)).toInt32))] [])) _
    refine XS.iload X9.here hx rfl (hb hby d32_192) rfl ?_
    show Steps _ _ _ (T9.setTop (mkF m 194 #[.val (.long (-(10 : Int64))), .second, .val (.int (16 : Int32)), .val (.ref a3), .unset, .unset, .unset, .val (.int (((16 : Int32) + (-1 : Int32)) + (-1 : Int32))), .val (.int (0 : Int32)), .unset, .val (.int ((-(10 : Int64)).toInt32))] [(.int (((16 : Int32) + (-1 : Int32)) + (-1 : Int32)))])) _
    exact retI X9 hx Bd.returns (hb hby d32_194) hr
  · show Qown_lgc10 Z a3 k vs nb d1 d2 kd1 kd2 vo vt h0 n0 _ T9.heap _
    rw [e9]
    exact ⟨_, rfl, N9, K9, _, by simp [hl], V9⟩
theorem ef_own_lgc20 (m : MethodId) (x0 : Int64) (x1 : Int32) (x2 : Addr) : entryFrame m #[(.long x0), (.int x1), (.ref x2)] 11 = mkF m 0 #[.val (.long x0), .second, .val (.int x1), .val (.ref x2), .unset, .unset, .unset, .unset, .unset, .unset, .unset] [] := by first | (simp [entryFrame, mkF, argsToLocals, Value.category]; done) | rfl
def Qown_lgc20 (Z : State) (a3 : Addr) (k : ClassId) (vs : List Value) (nb : Nat) (d1 : Addr) (d2 : Addr) (kd1 : ClassId) (kd2 : ClassId) (vo : List Value) (vt : List Value) (h0 : Heap) (n0 : Nat) (v : Option Value) (h : Heap) (L : List Loc) : Prop := (∃ u : Int32, v = some (.int u) ∧ Fr n0 L ∧ Keep h0 h [a3] ∧ ∃ vs2 : List Value, vs2.length = 16 ∧ Arv Z h a3 k .byte (16 : Int32) vs2 (.int (0 : Int32)))
theorem own_lgc20 (l : Launch) (Z : State) (a0 : Array Value) (hw : ∀ d ∈ tables_1, d.before a0 Z = true) (ws : List Jvm.Cond) (a3 : Addr) (k : ClassId) (vs : List Value) (nb : Nat) (d1 : Addr) (d2 : Addr) (kd1 : ClassId) (kd2 : ClassId) (vo : List Value) (vt : List Value) (h0 : Heap) (n0 : Nat) (Z0 : n0 ≤ h0.size) (V1 : Arv Z h0 a3 k .byte (16 : Int32) vs (.int (0 : Int32))) (hl : vs.length = 16) (w_a3 : nb ≤ a3) (hn1 : n0 ≤ nb) (SO : own_S Z h0 nb "java/lang/Integer" "DigitOnes" "[B" (.ref d1)) (ST : own_S Z h0 nb "java/lang/Integer" "DigitTens" "[B" (.ref d2)) (VO : Arv Z h0 d1 kd1 .byte (100 : Int32) vo (.int (0 : Int32))) (VT : Arv Z h0 d2 kd2 .byte (100 : Int32) vt (.int (0 : Int32))) (hd1 : d1 < nb) (hd2 : d2 < nb) :
    MetFree l mn24 (head1 (Jvm.Cond.code mn24 jdk_35_method_14_code 11 (some .int) :: ws) (⟨0, 0, 0, 0⟩ : Room)) (fun a U => a = #[(.long (20 : Int64)), (.int (16 : Int32)), (.ref a3)] ∧ Z.Warmed39 U.vm ∧ U.heap = h0) (fun _ _ _ _ _ => True) (fun _ U o U' => ∃ v L, o = .returned v ∧ Qown_lgc20 Z a3 k vs nb d1 d2 kd1 kd2 vo vt h0 n0 v U'.heap L ∧ FrameEnd U o U' L (⟨0, 0, 0, 0⟩ : Room).cells (⟨0, 0, 0, 0⟩ : Room).slots) := by
  refine MetFree.of_bodySF (plainFor_of_name pn_java_lang_Long) hisR ?_
  intro p e s m args below meth c s₁ Bd hml0 hP hK
  obtain ⟨rfl, hZ, hh⟩ := hP
  have hx := Bd.exec
  have hby := Bd.bytes
  have hml : c.maxLocals = 11 := hml0
  have hown : s.vm.findClass "java/lang/Long" = some m.cls := findClass_of_methodNamed Bd.named
  have hnm := (name_of_methodNamed Bd.named Bd.method).1
  have X0 : Stand p l e (⟨0, 0, 0, 0⟩ : Room) s m #[(.long (20 : Int64)), (.int (16 : Int32)), (.ref a3)] below meth c s₁ [] 0 0 := Stand.of_body Bd
  have e0 : s₁.heap = h0 := by rw [← hh, Bd.state]; rfl
  have N0 := Fr.nil n0
  have pre0 : ∀ t, Steps p.tables e below (s₁.setTop (mkF m 0 #[.val (.long (20 : Int64)), .second, .val (.int (16 : Int32)), .val (.ref a3), .unset, .unset, .unset, .unset, .unset, .unset, .unset] [])) t → Steps p.tables e below (s₁.setTop (entryFrame m #[(.long (20 : Int64)), (.int (16 : Int32)), (.ref a3)] 11)) t := fun t k => castTop (ef_own_lgc20 m ((20 : Int64)) ((16 : Int32)) (a3)) k
  have g_a3 := Nat.le_trans hn1 w_a3
  have nd1 : d1 ≠ a3 := Nat.ne_of_lt (Nat.lt_of_lt_of_le hd1 w_a3)
  have nd2 : d2 ≠ a3 := Nat.ne_of_lt (Nat.lt_of_lt_of_le hd2 w_a3)
  obtain ⟨u1, hu1⟩ := own_byte VO (i := 20) (by decide)
  obtain ⟨u2, hu2⟩ := own_byte VT (i := 20) (by decide)
  obtain ⟨T1, X1, e1, st1⟩ := getS2 X0 hx hZ hown (host := "") (Or.inl (wJ hw 225 rfl)) Via.refl e0 SO.sta (g := (mkF m 149 #[.val (.long (-(20 : Int64))), .second, .val (.int (16 : Int32)), .val (.ref a3), .unset, .unset, .unset, .val (.int ((16 : Int32) + (-1 : Int32))), .val (.int (0 : Int32)), .unset, .val (.int ((-(20 : Int64)).toInt32))] [(.int ((16 : Int32) + (-1 : Int32))), (.ref a3)])) rfl (hb hby d32_149)
  obtain ⟨cl2, Ar2, qc2, S2, Nn2, H2, G2⟩ := id VO
  have hin2 : ¬ ((-((-(20 : Int64)).toInt32)) < 0 ∨ cl2.slots.size ≤ ((-((-(20 : Int64)).toInt32))).toNatClampNeg) := inb_of S2 ⟨by decide, by decide⟩
  have hat2 : cl2.slots[((-((-(20 : Int64)).toInt32))).toNatClampNeg]? = some (.int u1) := H2.at hin2 (hu1)
  obtain ⟨cl3, Ar3, qc3, S3, Nn3, H3, G3⟩ := id V1
  have hin3 : ¬ (((16 : Int32) + (-1 : Int32)) < 0 ∨ cl3.slots.size ≤ (((16 : Int32) + (-1 : Int32))).toNatClampNeg) := inb_of S3 ⟨by decide, by decide⟩
  obtain ⟨T4, h4, X4, e4, W4, st4⟩ := stB X1 hx hZ e1 Ar3 (j := ((16 : Int32) + (-1 : Int32))) hin3 (g := (mkF m 156 #[.val (.long (-(20 : Int64))), .second, .val (.int (16 : Int32)), .val (.ref a3), .unset, .unset, .unset, .val (.int ((16 : Int32) + (-1 : Int32))), .val (.int (0 : Int32)), .unset, .val (.int ((-(20 : Int64)).toInt32))] [(.int u1), (.int ((16 : Int32) + (-1 : Int32))), (.ref a3)])) rfl rfl (hb hby d32_156)
  have V4 : Arv Z h4 a3 k .byte (16 : Int32) (vs.set 15 (.int (nar .byte u1))) (.int (0 : Int32)) := Arv.set Ar3 qc3 S3 Nn3 H3 G3 (fits_nar_byte _) W4 15 rfl (by rw [hl]; decide)
  have K4 : Keep h0 h4 [a3] := (Keep.refl h0 [a3]).wr W4 (Or.inl (wI 0 rfl))
  have N4 := Fr.snoc X4 N0 g_a3
  have Z4 : n0 ≤ h4.size := Nat.le_trans Z0 (Keep.of_wr W4).1
  have STb : Sta Z h4 "java/lang/Integer" "DigitTens" "[B" (.ref d2) := ST.sta.wr W4
  obtain ⟨T5, X5, e5, st5⟩ := getS2 X4 hx hZ hown (host := "") (Or.inl (wJ hw 229 rfl)) Via.refl e4 STb (g := (mkF m 170 #[.val (.long (-(20 : Int64))), .second, .val (.int (16 : Int32)), .val (.ref a3), .unset, .unset, .unset, .val (.int (((16 : Int32) + (-1 : Int32)) + (-1 : Int32))), .val (.int (0 : Int32)), .unset, .val (.int ((-(20 : Int64)).toInt32))] [(.int (((16 : Int32) + (-1 : Int32)) + (-1 : Int32))), (.ref a3)])) rfl (hb hby d32_170)
  have fc7 := (VT.other W4 nd2)
  obtain ⟨cl6, Ar6, qc6, S6, Nn6, H6, G6⟩ := id fc7
  have hin6 : ¬ ((-((-(20 : Int64)).toInt32)) < 0 ∨ cl6.slots.size ≤ ((-((-(20 : Int64)).toInt32))).toNatClampNeg) := inb_of S6 ⟨by decide, by decide⟩
  have hat6 : cl6.slots[((-((-(20 : Int64)).toInt32))).toNatClampNeg]? = some (.int u2) := H6.at hin6 (hu2)
  obtain ⟨cl8, Ar8, qc8, S8, Nn8, H8, G8⟩ := id V4
  have hin8 : ¬ ((((16 : Int32) + (-1 : Int32)) + (-1 : Int32)) < 0 ∨ cl8.slots.size ≤ ((((16 : Int32) + (-1 : Int32)) + (-1 : Int32))).toNatClampNeg) := inb_of S8 ⟨by decide, by decide⟩
  obtain ⟨T9, h9, X9, e9, W9, st9⟩ := stB X5 hx hZ e5 Ar8 (j := (((16 : Int32) + (-1 : Int32)) + (-1 : Int32))) hin8 (g := (mkF m 177 #[.val (.long (-(20 : Int64))), .second, .val (.int (16 : Int32)), .val (.ref a3), .unset, .unset, .unset, .val (.int (((16 : Int32) + (-1 : Int32)) + (-1 : Int32))), .val (.int (0 : Int32)), .unset, .val (.int ((-(20 : Int64)).toInt32))] [(.int u2), (.int (((16 : Int32) + (-1 : Int32)) + (-1 : Int32))), (.ref a3)])) rfl rfl (hb hby d32_177)
  have V9 : Arv Z h9 a3 k .byte (16 : Int32) ((vs.set 15 (.int (nar .byte u1))).set 14 (.int (nar .byte u2))) (.int (0 : Int32)) := Arv.set Ar8 qc8 S8 Nn8 H8 G8 (fits_nar_byte _) W9 14 rfl (by rw [List.length_set, hl]; decide)
  have K9 : Keep h0 h9 [a3] := K4.wr W9 (Or.inl (wI 0 rfl))
  have N9 := Fr.snoc X9 N4 g_a3
  have Z9 : n0 ≤ h9.size := Nat.le_trans Z4 (Keep.of_wr W9).1
  obtain ⟨fs, hr, hrun, hended, hW, hsame⟩ := X9.leave (v := some (.int (((16 : Int32) + (-1 : Int32)) + (-1 : Int32)))) (fun h => by rw [Bd.returns] at h; cases h)
  refine ⟨_, _, pre0 _ ?_, hrun, hended, _, _, rfl, ?_, ⟨_, rfl⟩, hW, hsame.mono (by decide) (by decide)⟩
  · show Steps p.tables e below (s₁.setTop (mkF m 0 #[.val (.long (20 : Int64)), .second, .val (.int (16 : Int32)), .val (.ref a3), .unset, .unset, .unset, .unset, .unset, .unset, .unset] [])) _
    refine XS.iloadN X0.here hx rfl (hb hby d32_0) rfl ?_
    refine XS.istore X0.here hx rfl (hb hby d32_1) rfl (l' := #[.val (.long (20 : Int64)), .second, .val (.int (16 : Int32)), .val (.ref a3), .unset, .unset, .unset, .val (.int (16 : Int32)), .unset, .unset, .unset]) rfl ?_
    refine XS.lloadN X0.here hx rfl (hb hby d32_3) rfl ?_
    refine XS.lconst X0.here hx rfl (hb hby d32_4) ?_
    show Steps _ _ _ (s₁.setTop (mkF m 5 #[.val (.long (20 : Int64)), .second, .val (.int (16 : Int32)), .val (.ref a3), .unset, .unset, .unset, .val (.int (16 : Int32)), .unset, .unset, .unset] [(.long (0 : Int64)), (.long (20 : Int64))])) _
    refine XS.lcmp X0.here hx rfl (hb hby d32_5) rfl ?_
    refine XS.ifYes X0.here hx rfl (pc0 := 6) (pc' := 13) rfl (hb hby d32_6) rfl ((if0 _ _).trans (flt (fun q => ((by decide : ¬ ((20 : Int64) < (0 : Int64)))) ((lw_lt _ _).mp q) : ¬ ((lcmpW (20 : Int64) (0 : Int64)) < (0 : Int32)))).2.1) (by decide) (by decide) ?_
    refine XS.iconst X0.here hx rfl (hb hby d32_13) ?_
    refine XS.istore X0.here hx rfl (hb hby d32_14) rfl (l' := #[.val (.long (20 : Int64)), .second, .val (.int (16 : Int32)), .val (.ref a3), .unset, .unset, .unset, .val (.int (16 : Int32)), .val (.int (0 : Int32)), .unset, .unset]) rfl ?_
    show Steps _ _ _ (s₁.setTop (mkF m 16 #[.val (.long (20 : Int64)), .second, .val (.int (16 : Int32)), .val (.ref a3), .unset, .unset, .unset, .val (.int (16 : Int32)), .val (.int (0 : Int32)), .unset, .unset] [])) _
    refine XS.iload X0.here hx rfl (hb hby d32_16) rfl ?_
    refine XS.ifNo X0.here hx rfl (hb hby d32_18) rfl ((if0 _ _).trans (teq (rfl : (0 : Int32) = (0 : Int32))).2) ?_
    refine XS.lloadN X0.here hx rfl (hb hby d32_21) rfl ?_
    refine XS.lneg X0.here hx rfl (hb hby d32_22) rfl ?_
    show Steps _ _ _ (s₁.setTop (mkF m 23 #[.val (.long (20 : Int64)), .second, .val (.int (16 : Int32)), .val (.ref a3), .unset, .unset, .unset, .val (.int (16 : Int32)), .val (.int (0 : Int32)), .unset, .unset] [(.long (-(20 : Int64)))])) _
    refine XS.lstoreN X0.here hx rfl (hb hby d32_23) rfl (l' := #[.val (.long (-(20 : Int64))), .second, .val (.int (16 : Int32)), .val (.ref a3), .unset, .unset, .unset, .val (.int (16 : Int32)), .val (.int (0 : Int32)), .unset, .unset]) rfl ?_
    refine XS.lloadN X0.here hx rfl (hb hby d32_24) rfl ?_
    refine X0.ldc2Long hx hown (mvT hZ (wJ hw 224 rfl)) (g := (mkF m 25 #[.val (.long (-(20 : Int64))), .second, .val (.int (16 : Int32)), .val (.ref a3), .unset, .unset, .unset, .val (.int (16 : Int32)), .val (.int (0 : Int32)), .unset, .unset] [(.long (-(20 : Int64)))])) rfl (hb hby d32_25) _ ?_
    refine XS.lcmp X0.here hx rfl (hb hby d32_28) rfl ?_
    show Steps _ _ _ (s₁.setTop (mkF m 29 #[.val (.long (-(20 : Int64))), .second, .val (.int (16 : Int32)), .val (.ref a3), .unset, .unset, .unset, .val (.int (16 : Int32)), .val (.int (0 : Int32)), .unset, .unset] [(.int (lcmpW (-(20 : Int64)) (-2147483648 : Int64)))])) _
    refine XS.ifYes X0.here hx rfl (pc0 := 29) (pc' := 82) rfl (hb hby d32_29) rfl ((if0 _ _).trans (tlt ((lw_gt _ _).mpr ((by decide : (-2147483648 : Int64) < (-(20 : Int64)))) : (0 : Int32) < (lcmpW (-(20 : Int64)) (-2147483648 : Int64)))).2.2.1) (by decide) (by decide) ?_
    refine XS.lloadN X0.here hx rfl (hb hby d32_82) rfl ?_
    refine XS.l2i X0.here hx rfl (hb hby d32_83) rfl ?_
    refine XS.istore X0.here hx rfl (hb hby d32_84) rfl (l' := #[.val (.long (-(20 : Int64))), .second, .val (.int (16 : Int32)), .val (.ref a3), .unset, .unset, .unset, .val (.int (16 : Int32)), .val (.int (0 : Int32)), .unset, .val (.int ((-(20 : Int64)).toInt32))]) rfl ?_
    show Steps _ _ _ (s₁.setTop (mkF m 86 #[.val (.long (-(20 : Int64))), .second, .val (.int (16 : Int32)), .val (.ref a3), .unset, .unset, .unset, .val (.int (16 : Int32)), .val (.int (0 : Int32)), .unset, .val (.int ((-(20 : Int64)).toInt32))] [])) _
    refine XS.iload X0.here hx rfl (hb hby d32_86) rfl ?_
    refine XS.bipush X0.here hx rfl (hb hby d32_88) ?_
    refine XS.icmpYes X0.here hx rfl (pc0 := 90) (pc' := 143) rfl (hb hby d32_90) rfl (tlt (by decide : (-100 : Int32) < ((-(20 : Int64)).toInt32))).2.2.1 (by decide) (by decide) ?_
    refine XS.aloadN X0.here hx rfl (hb hby d32_143) rfl rfl ?_
    show Steps _ _ _ (s₁.setTop (mkF m 144 #[.val (.long (-(20 : Int64))), .second, .val (.int (16 : Int32)), .val (.ref a3), .unset, .unset, .unset, .val (.int (16 : Int32)), .val (.int (0 : Int32)), .unset, .val (.int ((-(20 : Int64)).toInt32))] [(.ref a3)])) _
    refine XS.iinc X0.here hx rfl (hb hby d32_144) rfl (l' := #[.val (.long (-(20 : Int64))), .second, .val (.int (16 : Int32)), .val (.ref a3), .unset, .unset, .unset, .val (.int ((16 : Int32) + (-1 : Int32))), .val (.int (0 : Int32)), .unset, .val (.int ((-(20 : Int64)).toInt32))]) rfl ?_
    refine XS.iload X0.here hx rfl (hb hby d32_147) rfl ?_
    refine st1 _ ?_
    refine XS.iload X1.here hx rfl (hb hby d32_152) rfl ?_
    show Steps _ _ _ (T1.setTop (mkF m 154 #[.val (.long (-(20 : Int64))), .second, .val (.int (16 : Int32)), .val (.ref a3), .unset, .unset, .unset, .val (.int ((16 : Int32) + (-1 : Int32))), .val (.int (0 : Int32)), .unset, .val (.int ((-(20 : Int64)).toInt32))] [(.int ((-(20 : Int64)).toInt32)), (.ref d1), (.int ((16 : Int32) + (-1 : Int32))), (.ref a3)])) _
    refine XS.ineg X1.here hx rfl (hb hby d32_154) rfl ?_
    refine X1.baloadBytes hx (j := (-((-(20 : Int64)).toInt32))) (v := (.int u1)) (by rw [e1]; exact Ar2.1) (State.isArrayOf_alike hZ.alike Ar2.2.1) Ar2.2.2 hin2 hat2 (g := (mkF m 155 #[.val (.long (-(20 : Int64))), .second, .val (.int (16 : Int32)), .val (.ref a3), .unset, .unset, .unset, .val (.int ((16 : Int32) + (-1 : Int32))), .val (.int (0 : Int32)), .unset, .val (.int ((-(20 : Int64)).toInt32))] [(.int (-((-(20 : Int64)).toInt32))), (.ref d1), (.int ((16 : Int32) + (-1 : Int32))), (.ref a3)])) rfl rfl (hb hby d32_155) _ ?_
    refine st4 _ ?_
    refine XS.iload X4.here hx rfl (hb hby d32_157) rfl ?_
    show Steps _ _ _ (T4.setTop (mkF m 159 #[.val (.long (-(20 : Int64))), .second, .val (.int (16 : Int32)), .val (.ref a3), .unset, .unset, .unset, .val (.int ((16 : Int32) + (-1 : Int32))), .val (.int (0 : Int32)), .unset, .val (.int ((-(20 : Int64)).toInt32))] [(.int ((-(20 : Int64)).toInt32))])) _
    refine XS.bipush X4.here hx rfl (hb hby d32_159) ?_
    refine XS.icmpNo X4.here hx rfl (hb hby d32_161) rfl (tlt (by decide : ((-(20 : Int64)).toInt32) < (-9 : Int32))).2.1 ?_
    refine XS.aloadN X4.here hx rfl (hb hby d32_164) rfl rfl ?_
    refine XS.iinc X4.here hx rfl (hb hby d32_165) rfl (l' := #[.val (.long (-(20 : Int64))), .second, .val (.int (16 : Int32)), .val (.ref a3), .unset, .unset, .unset, .val (.int (((16 : Int32) + (-1 : Int32)) + (-1 : Int32))), .val (.int (0 : Int32)), .unset, .val (.int ((-(20 : Int64)).toInt32))]) rfl ?_
    show Steps _ _ _ (T4.setTop (mkF m 168 #[.val (.long (-(20 : Int64))), .second, .val (.int (16 : Int32)), .val (.ref a3), .unset, .unset, .unset, .val (.int (((16 : Int32) + (-1 : Int32)) + (-1 : Int32))), .val (.int (0 : Int32)), .unset, .val (.int ((-(20 : Int64)).toInt32))] [(.ref a3)])) _
    refine XS.iload X4.here hx rfl (hb hby d32_168) rfl ?_
    refine st5 _ ?_
    refine XS.iload X5.here hx rfl (hb hby d32_173) rfl ?_
    refine XS.ineg X5.here hx rfl (hb hby d32_175) rfl ?_
    show Steps _ _ _ (T5.setTop (mkF m 176 #[.val (.long (-(20 : Int64))), .second, .val (.int (16 : Int32)), .val (.ref a3), .unset, .unset, .unset, .val (.int (((16 : Int32) + (-1 : Int32)) + (-1 : Int32))), .val (.int (0 : Int32)), .unset, .val (.int ((-(20 : Int64)).toInt32))] [(.int (-((-(20 : Int64)).toInt32))), (.ref d2), (.int (((16 : Int32) + (-1 : Int32)) + (-1 : Int32))), (.ref a3)])) _
    refine X5.baloadBytes hx (j := (-((-(20 : Int64)).toInt32))) (v := (.int u2)) (by rw [e5]; exact Ar6.1) (State.isArrayOf_alike hZ.alike Ar6.2.1) Ar6.2.2 hin6 hat6 (g := (mkF m 176 #[.val (.long (-(20 : Int64))), .second, .val (.int (16 : Int32)), .val (.ref a3), .unset, .unset, .unset, .val (.int (((16 : Int32) + (-1 : Int32)) + (-1 : Int32))), .val (.int (0 : Int32)), .unset, .val (.int ((-(20 : Int64)).toInt32))] [(.int (-((-(20 : Int64)).toInt32))), (.ref d2), (.int (((16 : Int32) + (-1 : Int32)) + (-1 : Int32))), (.ref a3)])) rfl rfl (hb hby d32_176) _ ?_
    refine st9 _ ?_
    refine XS.iload X9.here hx rfl (hb hby d32_178) rfl ?_
    refine XS.ifYes X9.here hx rfl (pc0 := 180) (pc' := 192) rfl (hb hby d32_180) rfl ((if0 _ _).trans (teq (rfl : (0 : Int32) = (0 : Int32))).1) (by decide) (by decide) ?_
    show Steps _ _ _ (T9.setTop (mkF m 192 #[.val (.long (-(20 : Int64))), .second, .val (.int (16 : Int32)), .val (.ref a3), .unset, .unset, .unset, .val (.int (((16 : Int32) + (-1 : Int32)) + (-1 : Int32))), .val (.int (0 : Int32)), .unset, .val (.int ((-(20 : Int64)).toInt32))] [])) _
    refine XS.iload X9.here hx rfl (hb hby d32_192) rfl ?_
    show Steps _ _ _ (T9.setTop (mkF m 194 #[.val (.long (-(20 : Int64))), .second, .val (.int (16 : Int32)), .val (.ref a3), .unset, .unset, .unset, .val (.int (((16 : Int32) + (-1 : Int32)) + (-1 : Int32))), .val (.int (0 : Int32)), .unset, .val (.int ((-(20 : Int64)).toInt32))] [(.int (((16 : Int32) + (-1 : Int32)) + (-1 : Int32)))])) _
    exact retI X9 hx Bd.returns (hb hby d32_194) hr
  · show Qown_lgc20 Z a3 k vs nb d1 d2 kd1 kd2 vo vt h0 n0 _ T9.heap _
    rw [e9]
    exact ⟨_, rfl, N9, K9, _, by simp [hl], V9⟩
theorem own_lgcx1 (l : Launch) (Z : State) (a0 : Array Value) (hw : ∀ d ∈ tables_1, d.before a0 Z = true) (ws : List Jvm.Cond) (qq : Int64) (a3 : Addr) (k : ClassId) (vs : List Value) (nb : Nat) (d1 : Addr) (d2 : Addr) (kd1 : ClassId) (kd2 : ClassId) (vo : List Value) (vt : List Value) (h0 : Heap) (n0 : Nat) (Z0 : n0 ≤ h0.size) (hq : qq = (2 : Int64) ∨ qq = (3 : Int64)) (V1 : Arv Z h0 a3 k .byte (16 : Int32) vs (.int (0 : Int32))) (hl : vs.length = 16) (w_a3 : nb ≤ a3) (hn1 : n0 ≤ nb) (SO : own_S Z h0 nb "java/lang/Integer" "DigitOnes" "[B" (.ref d1)) (ST : own_S Z h0 nb "java/lang/Integer" "DigitTens" "[B" (.ref d2)) (VO : Arv Z h0 d1 kd1 .byte (100 : Int32) vo (.int (0 : Int32))) (VT : Arv Z h0 d2 kd2 .byte (100 : Int32) vt (.int (0 : Int32))) (hd1 : d1 < nb) (hd2 : d2 < nb) :
    MetFree l mn24 (head1 (Jvm.Cond.code mn24 jdk_35_method_14_code 11 (some .int) :: ws) (⟨0, 0, 0, 0⟩ : Room)) (fun a U => a = #[(.long qq), (.int (7 : Int32)), (.ref a3)] ∧ Z.Warmed39 U.vm ∧ U.heap = h0) (fun _ _ _ _ _ => True) (fun _ U o U' => ∃ v L, o = .returned v ∧ Qown_lgc2 Z a3 k vs nb d1 d2 kd1 kd2 vo vt h0 n0 v U'.heap L ∧ FrameEnd U o U' L (⟨0, 0, 0, 0⟩ : Room).cells (⟨0, 0, 0, 0⟩ : Room).slots) := by
  rcases hq with rfl | rfl
  · exact own_lgc2 l Z a0 hw ws a3 k vs nb d1 d2 kd1 kd2 vo vt h0 n0 Z0 V1 hl w_a3 hn1 SO ST VO VT hd1 hd2
  · exact own_lgc3 l Z a0 hw ws a3 k vs nb d1 d2 kd1 kd2 vo vt h0 n0 Z0 V1 hl w_a3 hn1 SO ST VO VT hd1 hd2
theorem d29_0 : decode c29 0 = .ok (.aload_n 0, 1) := by decide +kernel
theorem d29_1 : decode c29 1 = .ok (.getfield 79, 3) := by decide +kernel
theorem d29_4 : decode c29 4 = .ok (.istore_n 3, 1) := by decide +kernel
theorem d29_5 : decode c29 5 = .ok (.iload_n 3, 1) := by decide +kernel
theorem d29_6 : decode c29 6 = .ok (.lload_n 1, 1) := by decide +kernel
theorem d29_7 : decode c29 7 = .ok (.invokestatic 254, 3) := by decide +kernel
theorem pd__J_I : parseMethodDescriptor "(J)I" = some ⟨[.long], some .int⟩ := by decide +kernel
theorem d29_10 : decode c29 10 = .ok (.iadd, 1) := by decide +kernel
theorem d29_11 : decode c29 11 = .ok (.istore 4, 2) := by decide +kernel
theorem d29_13 : decode c29 13 = .ok (.aload_n 0, 1) := by decide +kernel
theorem d29_14 : decode c29 14 = .ok (.iload 4, 2) := by decide +kernel
theorem d29_16 : decode c29 16 = .ok (.invokevirtual 100, 3) := by decide +kernel
theorem d29_19 : decode c29 19 = .ok (.aload_n 0, 1) := by decide +kernel
theorem d29_20 : decode c29 20 = .ok (.invokevirtual 83, 3) := by decide +kernel
theorem pd___Z : parseMethodDescriptor "()Z" = some ⟨[], some .boolean⟩ := by decide +kernel
theorem d29_23 : decode c29 23 = .ok (.ifCond .eq 17, 3) := by decide +kernel
theorem d29_26 : decode c29 26 = .ok (.lload_n 1, 1) := by decide +kernel
theorem d29_27 : decode c29 27 = .ok (.iload 4, 2) := by decide +kernel
theorem d29_29 : decode c29 29 = .ok (.aload_n 0, 1) := by decide +kernel
theorem d29_30 : decode c29 30 = .ok (.getfield 15, 3) := by decide +kernel
theorem d29_33 : decode c29 33 = .ok (.invokestatic 259, 3) := by decide +kernel
theorem pd__JI_B_I : parseMethodDescriptor "(JI[B)I" = some ⟨[.long, .int, (.array .byte)], some .int⟩ := by decide +kernel
theorem d29_36 : decode c29 36 = .ok (.pop, 1) := by decide +kernel
theorem d29_37 : decode c29 37 = .ok (.goto 15, 3) := by decide +kernel
theorem d29_52 : decode c29 52 = .ok (.aload_n 0, 1) := by decide +kernel
theorem d29_53 : decode c29 53 = .ok (.iload 4, 2) := by decide +kernel
theorem d29_55 : decode c29 55 = .ok (.putfield 79, 3) := by decide +kernel
theorem d29_58 : decode c29 58 = .ok (.aload_n 0, 1) := by decide +kernel
theorem d29_59 : decode c29 59 = .ok (.areturn, 1) := by decide +kernel
theorem ef_own_apJx1 (m : MethodId) (x0 : Addr) (x1 : Int64) : entryFrame m #[(.ref x0), (.long x1)] 5 = mkF m 0 #[.val (.ref x0), .val (.long x1), .second, .unset, .unset] [] := by first | (simp [entryFrame, mkF, argsToLocals, Value.category]; done) | rfl
def Qown_apJx1 (Z : State) (a1 : Addr) (qq : Int64) (d1 : Addr) (d2 : Addr) (kd1 : ClassId) (kd2 : ClassId) (vo : List Value) (vt : List Value) (cs : Int32) (nb : Nat) (h0 : Heap) (n0 : Nat) (v : Option Value) (h : Heap) (L : List Loc) : Prop := v = some (.ref a1) ∧ Fr n0 L ∧ own_W nb h0 h ∧ own_sb Z h nb a1 (16 : Int32) (7 : Int32)
theorem own_apJx1 (l : Launch) (Z : State) (a0 : Array Value) (hw : ∀ d ∈ tables_1, d.before a0 Z = true) (ws : List Jvm.Cond) (a1 : Addr) (qq : Int64) (d1 : Addr) (d2 : Addr) (kd1 : ClassId) (kd2 : ClassId) (vo : List Value) (vt : List Value) (cs : Int32) (nb : Nat) (h0 : Heap) (n0 : Nat) (Z0 : n0 ≤ h0.size) (hq : qq = (2 : Int64) ∨ qq = (3 : Int64)) (B1 : own_sb Z h0 nb a1 (16 : Int32) (6 : Int32)) (hn1 : n0 ≤ nb) (SO : own_S Z h0 nb "java/lang/Integer" "DigitOnes" "[B" (.ref d1)) (ST : own_S Z h0 nb "java/lang/Integer" "DigitTens" "[B" (.ref d2)) (VO : Arv Z h0 d1 kd1 .byte (100 : Int32) vo (.int (0 : Int32))) (VT : Arv Z h0 d2 kd2 .byte (100 : Int32) vt (.int (0 : Int32))) (hd1 : d1 < nb) (hd2 : d2 < nb) (SC : own_S Z h0 nb "java/lang/String" "COMPACT_STRINGS" "Z" (.int cs)) (hcs : ¬ (cs = (0 : Int32))) :
    MetFree l mn15 (head1 (Jvm.Cond.code mn15 jdk_68_method_33_code 5 (some (.object "java/lang/AbstractStringBuilder")) :: ws) (⟨1, 0, 0, 22⟩ : Room)) (fun a U => a = #[(.ref a1), (.long qq)] ∧ Z.Warmed39 U.vm ∧ U.heap = h0) (fun _ _ _ _ _ => True) (fun _ U o U' => ∃ v L, o = .returned v ∧ Qown_apJx1 Z a1 qq d1 d2 kd1 kd2 vo vt cs nb h0 n0 v U'.heap L ∧ FrameEnd U o U' L (⟨1, 0, 0, 22⟩ : Room).cells (⟨1, 0, 0, 22⟩ : Room).slots) := by
  refine MetFree.of_bodySF (plainFor_of_name pn_java_lang_AbstractStringBuilder) hisR ?_
  intro p e s m args below meth c s₁ Bd hml0 hP hK
  obtain ⟨rfl, hZ, hh⟩ := hP
  have hx := Bd.exec
  have hby := Bd.bytes
  have hml : c.maxLocals = 5 := hml0
  have hown : s.vm.findClass "java/lang/AbstractStringBuilder" = some m.cls := findClass_of_methodNamed Bd.named
  have hnm := (name_of_methodNamed Bd.named Bd.method).1
  have X0 : Stand p l e (⟨1, 0, 0, 22⟩ : Room) s m #[(.ref a1), (.long qq)] below meth c s₁ [] 0 0 := Stand.of_body Bd
  have e0 : s₁.heap = h0 := by rw [← hh, Bd.state]; rfl
  have N0 := Fr.nil n0
  have pre0 : ∀ t, Steps p.tables e below (s₁.setTop (mkF m 0 #[.val (.ref a1), .val (.long qq), .second, .unset, .unset] [])) t → Steps p.tables e below (s₁.setTop (entryFrame m #[(.ref a1), (.long qq)] 5)) t := fun t k => castTop (ef_own_apJx1 m (a1) (qq)) k
  obtain ⟨b, k, vs, E1, F1, F2, F3, V1, hlb, w_a1, w_b, hne, Eb⟩ := B1
  have g_a1 := Nat.le_trans hn1 w_a1
  have g_b := Nat.le_trans hn1 w_b
  obtain ⟨T1, X1, e1, st1⟩ := getF X0 hx hZ hown (host := "") (Or.inl (wJ hw 166 rfl)) Via.refl e0 F3 (g := (mkF m 1 #[.val (.ref a1), .val (.long qq), .second, .unset, .unset] [(.ref a1)])) rfl rfl (hb hby d29_1)
  obtain ⟨_, _, ⟨T2, L2, k2, n2⟩, -, X2, ⟨Lc2, hQ2, l2, y2, z2⟩, st2⟩ := Jvm.LawKit.callS X1 hx (y := mn25) hown (mvT hZ (wJ hw 211 rfl)) (mvT hZ (wJ hw 212 rfl)) (mvT hZ (wJ hw 213 rfl)) (mvT hZ (wJ hw 214 rfl)) (by decide) (backOf (W := 1) (own_lszx1 l Z a0 hw [] qq  h0 n0 Z0 hq) hZ (wJ hw 214 rfl) (wJ hw 213 rfl) (by decide) (by decide)) (g := (mkF m 7 #[.val (.ref a1), .val (.long qq), .second, .val (.int (6 : Int32)), .unset] [(.long qq), (.int (6 : Int32))])) rfl (by rw [hml]; rfl) (argsL := [(.long qq)]) (rest := [(.int (6 : Int32))]) (lenOf pd__J_I rfl) rfl (by show 2 * 0 + _ ≤ _; exact Nat.le_of_eq rfl) (hb hby d29_7) (fun _ _ => ⟨rfl, e1, (by decide : 0 + 0 ≤ _), (by decide : 0 + 0 ≤ _)⟩)
  dsimp only [Pt.U, Pt.locs, Pt.cells, Pt.slots] at X2 l2 y2 z2 st2 hQ2
  replace X2 := X2.more (Nat.le_of_eq (show k2 = 0 from y2)) (Nat.le_of_eq (show n2 = 0 from z2))
  obtain ⟨rfl, Nq2, e2⟩ := hQ2
  have N2 : Fr n0 L2 := by rw [l2]; exact Fr.app N0 Nq2
  obtain ⟨cq3, kq3, q3a, q3b, q3c⟩ := isOf hZ e2 E1
  obtain ⟨_, _, ⟨T3, L3, k3, n3⟩, -, X3, ⟨Lc3, hQ3, l3, y3, z3⟩, st3⟩ := X2.virtualBack hx (y := mn17) (z := mn17) hown (mvT hZ (wJ hw 168 rfl)) (mvT hZ (own_decl (wJ hw 169 rfl) (wJ hw 172 rfl))) (notFace_of_selects (args := #[]) (mvT hZ (wJ hw 171 rfl))) (mvT hZ (wJ hw 171 rfl)) (mvT hZ (wJ hw 169 rfl)) (by decide) (backOf (W := 0) (own_ensN l Z a0 hw [] a1 (7 : Int32) b k (16 : Int32) vs h0 n0 Z0 F1 F2 V1 (by decide)) hZ (wJ hw 172 rfl) (wJ hw 87 rfl) (by decide) (by decide)) q3a q3c (g := (mkF m 16 #[.val (.ref a1), .val (.long qq), .second, .val (.int (6 : Int32)), .val (.int (7 : Int32))] [(.int (7 : Int32)), (.ref a1)])) rfl (by rw [hml]; rfl) (Steps.refl _) (argsL := [(.int (7 : Int32))]) (rest := []) (lenOf pd__I_V rfl) rfl (by show 2 * 0 + _ ≤ _; exact Nat.le_of_eq rfl) (hb hby d29_16) (fun _ _ => ⟨rfl, e2, (by decide : 0 + 0 ≤ _), (by decide : 0 + 0 ≤ _)⟩)
  dsimp only [Pt.U, Pt.locs, Pt.cells, Pt.slots] at X3 l3 y3 z3 st3 hQ3
  replace X3 := X3.more (Nat.le_of_eq (show k3 = 0 from y3)) (Nat.le_of_eq (show n3 = 0 from z3))
  obtain ⟨rfl, Nq3, e3⟩ := hQ3
  have N3 : Fr n0 L3 := by rw [l3]; exact Fr.app N2 Nq3
  obtain ⟨cq4, kq4, q4a, q4b, q4c⟩ := isOf hZ e3 E1
  obtain ⟨_, _, ⟨T4, L4, k4, n4⟩, -, X4, ⟨Lc4, hQ4, l4, y4, z4⟩, st4⟩ := X3.virtualBack hx (y := mn20) (z := mn20) hown (mvT hZ (wJ hw 216 rfl)) (mvT hZ (wJ hw 217 rfl)) (notFace_of_selects (args := #[]) (mvT hZ (wJ hw 219 rfl))) (mvT hZ (wJ hw 219 rfl)) (mvT hZ (wJ hw 218 rfl)) (by decide) (backOf (W := 0) (own_isL l Z a0 hw [] a1 cs nb h0 n0 Z0 F2 SC hcs) hZ (wJ hw 220 rfl) (wJ hw 87 rfl) (by decide) (by decide)) q4a q4c (g := (mkF m 20 #[.val (.ref a1), .val (.long qq), .second, .val (.int (6 : Int32)), .val (.int (7 : Int32))] [(.ref a1)])) rfl (by rw [hml]; rfl) (Steps.refl _) (argsL := []) (rest := []) (lenOf pd___Z rfl) rfl (by show 2 * 0 + _ ≤ _; exact Nat.le_of_eq rfl) (hb hby d29_20) (fun _ _ => ⟨rfl, e3, (by decide : 0 + 0 ≤ _), (by decide : 0 + 0 ≤ _)⟩)
  dsimp only [Pt.U, Pt.locs, Pt.cells, Pt.slots] at X4 l4 y4 z4 st4 hQ4
  replace X4 := X4.more (Nat.le_of_eq (show k4 = 0 from y4)) (Nat.le_of_eq (show n4 = 0 from z4))
  obtain ⟨rfl, Nq4, e4⟩ := hQ4
  have N4 : Fr n0 L4 := by rw [l4]; exact Fr.app N3 Nq4
  obtain ⟨T5, X5, e5, st5⟩ := getF X4 hx hZ hown (host := "") (Or.inl (wJ hw 91 rfl)) Via.refl e4 F1 (g := (mkF m 30 #[.val (.ref a1), .val (.long qq), .second, .val (.int (6 : Int32)), .val (.int (7 : Int32))] [(.ref a1), (.int (7 : Int32)), (.long qq)])) rfl rfl (hb hby d29_30)
  obtain ⟨_, _, ⟨T6, L6, k6, n6⟩, -, X6, ⟨Lc6, hQ6, l6, y6, z6⟩, st6⟩ := Jvm.LawKit.callS X5 hx (y := mn24) hown (mvT hZ (wJ hw 221 rfl)) (mvT hZ (wJ hw 222 rfl)) (mvT hZ (wJ hw 213 rfl)) (mvT hZ (wJ hw 223 rfl)) (by decide) (backOf (W := 0) (own_lgcx1 l Z a0 hw [] qq b k vs nb d1 d2 kd1 kd2 vo vt h0 n0 Z0 hq V1 hlb w_b hn1 SO ST VO VT hd1 hd2) hZ (wJ hw 223 rfl) (wJ hw 213 rfl) (by decide) (by decide)) (g := (mkF m 33 #[.val (.ref a1), .val (.long qq), .second, .val (.int (6 : Int32)), .val (.int (7 : Int32))] [(.ref b), (.int (7 : Int32)), (.long qq)])) rfl (by rw [hml]; rfl) (argsL := [(.long qq), (.int (7 : Int32)), (.ref b)]) (rest := []) (lenOf pd__JI_B_I rfl) rfl (by show 2 * 0 + _ ≤ _; exact Nat.le_of_eq rfl) (hb hby d29_33) (fun _ _ => ⟨rfl, e5, (by decide : 0 + 0 ≤ _), (by decide : 0 + 0 ≤ _)⟩)
  dsimp only [Pt.U, Pt.locs, Pt.cells, Pt.slots] at X6 l6 y6 z6 st6 hQ6
  replace X6 := X6.more (Nat.le_of_eq (show k6 = 0 from y6)) (Nat.le_of_eq (show n6 = 0 from z6))
  obtain ⟨uq, rfl, Nq6, Kq6, vs2, hl2, V2⟩ := hQ6
  have Z6 : n0 ≤ T6.heap.size := Nat.le_trans Z0 Kq6.1
  have K6 : Keep h0 T6.heap [a1, b] := (Keep.refl h0 [a1, b]).trans Kq6 (allS (Or.inl (wI 1 rfl)) all0)
  have N6 : Fr n0 L6 := by rw [l6]; exact Fr.app N4 Nq6
  have fc8 := (F3.keep Kq6 (ninS hne nin0))
  have fc9 := (E1.keep Kq6)
  obtain ⟨T7, h7, X7, e7, W7, st7⟩ := putF X6 hx hZ hown (host := "") (Or.inl (wJ hw 166 rfl)) Via.refl rfl fc8 fc9 (Or.inl (wJ hw 167 rfl)) (wJ hw 78 rfl) (ty := .int) (by decide) rfl rfl (g := (mkF m 55 #[.val (.ref a1), .val (.long qq), .second, .val (.int (6 : Int32)), .val (.int (7 : Int32))] [(.int (7 : Int32)), (.ref a1)])) rfl rfl (hb hby d29_55)
  have Fw7 := fc8.same W7
  have K7 : Keep h0 h7 [a1, b] := K6.wr W7 (Or.inl (wI 0 rfl))
  have N7 := Fr.snoc X7 N6 g_a1
  have Z7 : n0 ≤ h7.size := Nat.le_trans Z6 (Keep.of_wr W7).1
  have fc10 := (fc9.wr W7)
  have fc11 := ((F1.keep Kq6 (ninS hne nin0)).other W7 (Or.inr (slot_ne (Or.inl (wJ hw 92 rfl)) (Or.inl (wJ hw 167 rfl)) (by decide) (t := (.array .byte)) (t' := .int) (by decide) (by decide))))
  have fc12 := ((F2.keep Kq6 (ninS hne nin0)).other W7 (Or.inr (slot_ne (Or.inl (wJ hw 94 rfl)) (Or.inl (wJ hw 167 rfl)) (by decide) (t := .byte) (t' := .int) (by decide) (by decide))))
  have fc13 := (V2.other W7 (Ne.symm hne))
  have fc14 := ((Eb.keep Kq6).wr W7)
  obtain ⟨fs, hr, hrun, hended, hW, hsame⟩ := X7.leave (v := some (.ref a1)) (fun h => by rw [Bd.returns] at h; cases h)
  refine ⟨_, _, pre0 _ ?_, hrun, hended, _, _, rfl, ?_, ⟨_, rfl⟩, hW, hsame.mono (by decide) (by decide)⟩
  · show Steps p.tables e below (s₁.setTop (mkF m 0 #[.val (.ref a1), .val (.long qq), .second, .unset, .unset] [])) _
    refine XS.aloadN X0.here hx rfl (hb hby d29_0) rfl rfl ?_
    refine st1 _ ?_
    refine XS.istoreN X1.here hx rfl (hb hby d29_4) rfl (l' := #[.val (.ref a1), .val (.long qq), .second, .val (.int (6 : Int32)), .unset]) rfl ?_
    refine XS.iloadN X1.here hx rfl (hb hby d29_5) rfl ?_
    show Steps _ _ _ (T1.setTop (mkF m 6 #[.val (.ref a1), .val (.long qq), .second, .val (.int (6 : Int32)), .unset] [(.int (6 : Int32))])) _
    refine XS.lloadN X1.here hx rfl (hb hby d29_6) rfl ?_
    refine st2 _ ?_
    refine XS.iadd X2.here hx rfl (hb hby d29_10) rfl ?_
    show Steps _ _ _ (T2.setTop (mkF m 11 #[.val (.ref a1), .val (.long qq), .second, .val (.int (6 : Int32)), .unset] [(.int ((6 : Int32) + (1 : Int32)))])) _
    rw [(by decide : (6 : Int32) + (1 : Int32) = (7 : Int32))]
    show Steps _ _ _ (T2.setTop (mkF m 11 #[.val (.ref a1), .val (.long qq), .second, .val (.int (6 : Int32)), .unset] [(.int (7 : Int32))])) _
    refine XS.istore X2.here hx rfl (hb hby d29_11) rfl (l' := #[.val (.ref a1), .val (.long qq), .second, .val (.int (6 : Int32)), .val (.int (7 : Int32))]) rfl ?_
    refine XS.aloadN X2.here hx rfl (hb hby d29_13) rfl rfl ?_
    refine XS.iload X2.here hx rfl (hb hby d29_14) rfl ?_
    refine st3.trans ?_
    show Steps _ _ _ (T3.setTop (mkF m 19 #[.val (.ref a1), .val (.long qq), .second, .val (.int (6 : Int32)), .val (.int (7 : Int32))] [])) _
    refine XS.aloadN X3.here hx rfl (hb hby d29_19) rfl rfl ?_
    refine st4.trans ?_
    refine XS.ifNo X4.here hx rfl (hb hby d29_23) rfl ((if0 _ _).trans (feq (by decide : ¬ ((1 : Int32) = (0 : Int32)))).1) ?_
    refine XS.lloadN X4.here hx rfl (hb hby d29_26) rfl ?_
    show Steps _ _ _ (T4.setTop (mkF m 27 #[.val (.ref a1), .val (.long qq), .second, .val (.int (6 : Int32)), .val (.int (7 : Int32))] [(.long qq)])) _
    refine XS.iload X4.here hx rfl (hb hby d29_27) rfl ?_
    refine XS.aloadN X4.here hx rfl (hb hby d29_29) rfl rfl ?_
    refine st5 _ ?_
    refine st6 _ ?_
    show Steps _ _ _ (T6.setTop (mkF m 36 #[.val (.ref a1), .val (.long qq), .second, .val (.int (6 : Int32)), .val (.int (7 : Int32))] [(.int uq)])) _
    refine XS.pop X6.here hx rfl (hb hby d29_36) rfl rfl ?_
    refine XS.goto X6.here hx rfl (pc0 := 37) (pc' := 52) rfl (hb hby d29_37) (by decide) (by decide) ?_
    refine XS.aloadN X6.here hx rfl (hb hby d29_52) rfl rfl ?_
    refine XS.iload X6.here hx rfl (hb hby d29_53) rfl ?_
    show Steps _ _ _ (T6.setTop (mkF m 55 #[.val (.ref a1), .val (.long qq), .second, .val (.int (6 : Int32)), .val (.int (7 : Int32))] [(.int (7 : Int32)), (.ref a1)])) _
    refine st7 _ ?_
    refine XS.aloadN X7.here hx rfl (hb hby d29_58) rfl rfl ?_
    show Steps _ _ _ (T7.setTop (mkF m 59 #[.val (.ref a1), .val (.long qq), .second, .val (.int (6 : Int32)), .val (.int (7 : Int32))] [(.ref a1)])) _
    exact retOut X7 hx Bd.returns rfl (Or.inr (Or.inr (Or.inr (Or.inr ⟨rfl, rfl, rfl⟩)))) (hb hby d29_59) hr
  · show Qown_apJx1 Z a1 qq d1 d2 kd1 kd2 vo vt cs nb h0 n0 _ T7.heap _
    rw [e7]
    exact ⟨rfl, N7, ⟨_, K7, allS w_a1 (allS w_b all0)⟩, b, k, vs2, fc10, fc11, fc12, Fw7, fc13, hl2, w_a1, w_b, hne, fc14⟩
theorem d28_0 : decode c28 0 = .ok (.aload_n 0, 1) := by decide +kernel
theorem d28_1 : decode c28 1 = .ok (.lload_n 1, 1) := by decide +kernel
theorem d28_2 : decode c28 2 = .ok (.invokespecial 56, 3) := by decide +kernel
theorem pd__J_Ljava_lang_AbstractStringBuilder_ : parseMethodDescriptor "(J)Ljava/lang/AbstractStringBuilder;" = some ⟨[.long], some (.object "java/lang/AbstractStringBuilder")⟩ := by decide +kernel
theorem d28_5 : decode c28 5 = .ok (.pop, 1) := by decide +kernel
theorem d28_6 : decode c28 6 = .ok (.aload_n 0, 1) := by decide +kernel
theorem d28_7 : decode c28 7 = .ok (.areturn, 1) := by decide +kernel
theorem ef_own_sbJx1 (m : MethodId) (x0 : Addr) (x1 : Int64) : entryFrame m #[(.ref x0), (.long x1)] 3 = mkF m 0 #[.val (.ref x0), .val (.long x1), .second] [] := by first | (simp [entryFrame, mkF, argsToLocals, Value.category]; done) | rfl
def Qown_sbJx1 (Z : State) (a1 : Addr) (qq : Int64) (d1 : Addr) (d2 : Addr) (kd1 : ClassId) (kd2 : ClassId) (vo : List Value) (vt : List Value) (cs : Int32) (nb : Nat) (h0 : Heap) (n0 : Nat) (v : Option Value) (h : Heap) (L : List Loc) : Prop := v = some (.ref a1) ∧ Fr n0 L ∧ own_W nb h0 h ∧ own_sb Z h nb a1 (16 : Int32) (7 : Int32)
theorem own_sbJx1 (l : Launch) (Z : State) (a0 : Array Value) (hw : ∀ d ∈ tables_1, d.before a0 Z = true) (ws : List Jvm.Cond) (a1 : Addr) (qq : Int64) (d1 : Addr) (d2 : Addr) (kd1 : ClassId) (kd2 : ClassId) (vo : List Value) (vt : List Value) (cs : Int32) (nb : Nat) (h0 : Heap) (n0 : Nat) (Z0 : n0 ≤ h0.size) (hq : qq = (2 : Int64) ∨ qq = (3 : Int64)) (B1 : own_sb Z h0 nb a1 (16 : Int32) (6 : Int32)) (hn1 : n0 ≤ nb) (SO : own_S Z h0 nb "java/lang/Integer" "DigitOnes" "[B" (.ref d1)) (ST : own_S Z h0 nb "java/lang/Integer" "DigitTens" "[B" (.ref d2)) (VO : Arv Z h0 d1 kd1 .byte (100 : Int32) vo (.int (0 : Int32))) (VT : Arv Z h0 d2 kd2 .byte (100 : Int32) vt (.int (0 : Int32))) (hd1 : d1 < nb) (hd2 : d2 < nb) (SC : own_S Z h0 nb "java/lang/String" "COMPACT_STRINGS" "Z" (.int cs)) (hcs : ¬ (cs = (0 : Int32))) :
    MetFree l mn38 (head1 (Jvm.Cond.code mn38 jdk_67_method_16_code 3 (some (.object "java/lang/StringBuilder")) :: ws) (⟨2, 0, 0, 38⟩ : Room)) (fun a U => a = #[(.ref a1), (.long qq)] ∧ Z.Warmed39 U.vm ∧ U.heap = h0) (fun _ _ _ _ _ => True) (fun _ U o U' => ∃ v L, o = .returned v ∧ Qown_sbJx1 Z a1 qq d1 d2 kd1 kd2 vo vt cs nb h0 n0 v U'.heap L ∧ FrameEnd U o U' L (⟨2, 0, 0, 38⟩ : Room).cells (⟨2, 0, 0, 38⟩ : Room).slots) := by
  refine MetFree.of_bodySF (plainFor_of_name pn_java_lang_StringBuilder) hisR ?_
  intro p e s m args below meth c s₁ Bd hml0 hP hK
  obtain ⟨rfl, hZ, hh⟩ := hP
  have hx := Bd.exec
  have hby := Bd.bytes
  have hml : c.maxLocals = 3 := hml0
  have hown : s.vm.findClass "java/lang/StringBuilder" = some m.cls := findClass_of_methodNamed Bd.named
  have hnm := (name_of_methodNamed Bd.named Bd.method).1
  have X0 : Stand p l e (⟨2, 0, 0, 38⟩ : Room) s m #[(.ref a1), (.long qq)] below meth c s₁ [] 0 0 := Stand.of_body Bd
  have e0 : s₁.heap = h0 := by rw [← hh, Bd.state]; rfl
  have N0 := Fr.nil n0
  have pre0 : ∀ t, Steps p.tables e below (s₁.setTop (mkF m 0 #[.val (.ref a1), .val (.long qq), .second] [])) t → Steps p.tables e below (s₁.setTop (entryFrame m #[(.ref a1), (.long qq)] 3)) t := fun t k => castTop (ef_own_sbJx1 m (a1) (qq)) k
  have E1 : Exa Z h0 a1 "java/lang/StringBuilder" := by obtain ⟨_, _, _, e, _⟩ := B1; exact e
  obtain ⟨_, _, ⟨T1, L1, k1, n1⟩, -, X1, ⟨Lc1, hQ1, l1, y1, z1⟩, st1⟩ := superBack X0 hx hZ (y := mn15) hown (wJ hw 207 rfl) (own_same (wJ hw 219 rfl) (wJ hw 210 rfl) rfl (by decide)) (wJ hw 208 rfl) (wJ hw 153 rfl) (by decide) (backOf (W := 0) (own_apJx1 l Z a0 hw [] a1 qq d1 d2 kd1 kd2 vo vt cs nb h0 n0 Z0 hq B1 hn1 SO ST VO VT hd1 hd2 SC hcs) hZ (wJ hw 210 rfl) (wJ hw 87 rfl) (by decide) (by decide)) e0 (Ins.self E1) (g := (mkF m 2 #[.val (.ref a1), .val (.long qq), .second] [(.long qq), (.ref a1)])) rfl (by rw [hml]; rfl) (wJ hw 210 rfl) (argsL := [(.long qq)]) (rest := []) (lenOf pd__J_Ljava_lang_AbstractStringBuilder_ rfl) rfl (by show 2 * 0 + _ ≤ _; exact Nat.le_of_eq rfl) (hb hby d28_2) (fun _ _ => ⟨rfl, e0, (by decide : 0 + 0 ≤ _), (by decide : 0 + 0 ≤ _)⟩)
  dsimp only [Pt.U, Pt.locs, Pt.cells, Pt.slots] at X1 l1 y1 z1 st1 hQ1
  replace X1 := X1.more (Nat.le_of_eq (show k1 = 0 from y1)) (Nat.le_of_eq (show n1 = 0 from z1))
  obtain ⟨rfl, Nq1, Wq1, B2⟩ := hQ1
  have Z1 : n0 ≤ T1.heap.size := Nat.le_trans Z0 Wq1.size
  have N1 : Fr n0 L1 := by rw [l1]; exact Fr.app N0 Nq1
  obtain ⟨fs, hr, hrun, hended, hW, hsame⟩ := X1.leave (v := some (.ref a1)) (fun h => by rw [Bd.returns] at h; cases h)
  refine ⟨_, _, pre0 _ ?_, hrun, hended, _, _, rfl, ?_, ⟨_, rfl⟩, hW, hsame.mono (by decide) (by decide)⟩
  · show Steps p.tables e below (s₁.setTop (mkF m 0 #[.val (.ref a1), .val (.long qq), .second] [])) _
    refine XS.aloadN X0.here hx rfl (hb hby d28_0) rfl rfl ?_
    refine XS.lloadN X0.here hx rfl (hb hby d28_1) rfl ?_
    refine st1.trans ?_
    refine XS.pop X1.here hx rfl (hb hby d28_5) rfl rfl ?_
    show Steps _ _ _ (T1.setTop (mkF m 6 #[.val (.ref a1), .val (.long qq), .second] [])) _
    refine XS.aloadN X1.here hx rfl (hb hby d28_6) rfl rfl ?_
    show Steps _ _ _ (T1.setTop (mkF m 7 #[.val (.ref a1), .val (.long qq), .second] [(.ref a1)])) _
    exact retOut X1 hx Bd.returns rfl (Or.inr (Or.inr (Or.inr (Or.inr ⟨rfl, rfl, rfl⟩)))) (hb hby d28_7) hr
  · show Qown_sbJx1 Z a1 qq d1 d2 kd1 kd2 vo vt cs nb h0 n0 _ T1.heap _
    exact ⟨rfl, N1, Wq1, B2⟩
theorem own_lgcx2 (l : Launch) (Z : State) (a0 : Array Value) (hw : ∀ d ∈ tables_1, d.before a0 Z = true) (ws : List Jvm.Cond) (qq : Int64) (a3 : Addr) (k : ClassId) (vs : List Value) (nb : Nat) (d1 : Addr) (d2 : Addr) (kd1 : ClassId) (kd2 : ClassId) (vo : List Value) (vt : List Value) (h0 : Heap) (n0 : Nat) (Z0 : n0 ≤ h0.size) (hq : qq = (10 : Int64) ∨ qq = (20 : Int64)) (V1 : Arv Z h0 a3 k .byte (16 : Int32) vs (.int (0 : Int32))) (hl : vs.length = 16) (w_a3 : nb ≤ a3) (hn1 : n0 ≤ nb) (SO : own_S Z h0 nb "java/lang/Integer" "DigitOnes" "[B" (.ref d1)) (ST : own_S Z h0 nb "java/lang/Integer" "DigitTens" "[B" (.ref d2)) (VO : Arv Z h0 d1 kd1 .byte (100 : Int32) vo (.int (0 : Int32))) (VT : Arv Z h0 d2 kd2 .byte (100 : Int32) vt (.int (0 : Int32))) (hd1 : d1 < nb) (hd2 : d2 < nb) :
    MetFree l mn24 (head1 (Jvm.Cond.code mn24 jdk_35_method_14_code 11 (some .int) :: ws) (⟨0, 0, 0, 0⟩ : Room)) (fun a U => a = #[(.long qq), (.int (16 : Int32)), (.ref a3)] ∧ Z.Warmed39 U.vm ∧ U.heap = h0) (fun _ _ _ _ _ => True) (fun _ U o U' => ∃ v L, o = .returned v ∧ Qown_lgc10 Z a3 k vs nb d1 d2 kd1 kd2 vo vt h0 n0 v U'.heap L ∧ FrameEnd U o U' L (⟨0, 0, 0, 0⟩ : Room).cells (⟨0, 0, 0, 0⟩ : Room).slots) := by
  rcases hq with rfl | rfl
  · exact own_lgc10 l Z a0 hw ws a3 k vs nb d1 d2 kd1 kd2 vo vt h0 n0 Z0 V1 hl w_a3 hn1 SO ST VO VT hd1 hd2
  · exact own_lgc20 l Z a0 hw ws a3 k vs nb d1 d2 kd1 kd2 vo vt h0 n0 Z0 V1 hl w_a3 hn1 SO ST VO VT hd1 hd2
theorem ef_own_apJx2 (m : MethodId) (x0 : Addr) (x1 : Int64) : entryFrame m #[(.ref x0), (.long x1)] 5 = mkF m 0 #[.val (.ref x0), .val (.long x1), .second, .unset, .unset] [] := by first | (simp [entryFrame, mkF, argsToLocals, Value.category]; done) | rfl
def Qown_apJx2 (Z : State) (a1 : Addr) (qq : Int64) (d1 : Addr) (d2 : Addr) (kd1 : ClassId) (kd2 : ClassId) (vo : List Value) (vt : List Value) (cs : Int32) (nb : Nat) (h0 : Heap) (n0 : Nat) (v : Option Value) (h : Heap) (L : List Loc) : Prop := v = some (.ref a1) ∧ Fr n0 L ∧ own_W nb h0 h ∧ own_sb Z h nb a1 (16 : Int32) (16 : Int32)
theorem own_apJx2 (l : Launch) (Z : State) (a0 : Array Value) (hw : ∀ d ∈ tables_1, d.before a0 Z = true) (ws : List Jvm.Cond) (a1 : Addr) (qq : Int64) (d1 : Addr) (d2 : Addr) (kd1 : ClassId) (kd2 : ClassId) (vo : List Value) (vt : List Value) (cs : Int32) (nb : Nat) (h0 : Heap) (n0 : Nat) (Z0 : n0 ≤ h0.size) (hq : qq = (10 : Int64) ∨ qq = (20 : Int64)) (B1 : own_sb Z h0 nb a1 (16 : Int32) (14 : Int32)) (hn1 : n0 ≤ nb) (SO : own_S Z h0 nb "java/lang/Integer" "DigitOnes" "[B" (.ref d1)) (ST : own_S Z h0 nb "java/lang/Integer" "DigitTens" "[B" (.ref d2)) (VO : Arv Z h0 d1 kd1 .byte (100 : Int32) vo (.int (0 : Int32))) (VT : Arv Z h0 d2 kd2 .byte (100 : Int32) vt (.int (0 : Int32))) (hd1 : d1 < nb) (hd2 : d2 < nb) (SC : own_S Z h0 nb "java/lang/String" "COMPACT_STRINGS" "Z" (.int cs)) (hcs : ¬ (cs = (0 : Int32))) :
    MetFree l mn15 (head1 (Jvm.Cond.code mn15 jdk_68_method_33_code 5 (some (.object "java/lang/AbstractStringBuilder")) :: ws) (⟨1, 0, 0, 22⟩ : Room)) (fun a U => a = #[(.ref a1), (.long qq)] ∧ Z.Warmed39 U.vm ∧ U.heap = h0) (fun _ _ _ _ _ => True) (fun _ U o U' => ∃ v L, o = .returned v ∧ Qown_apJx2 Z a1 qq d1 d2 kd1 kd2 vo vt cs nb h0 n0 v U'.heap L ∧ FrameEnd U o U' L (⟨1, 0, 0, 22⟩ : Room).cells (⟨1, 0, 0, 22⟩ : Room).slots) := by
  refine MetFree.of_bodySF (plainFor_of_name pn_java_lang_AbstractStringBuilder) hisR ?_
  intro p e s m args below meth c s₁ Bd hml0 hP hK
  obtain ⟨rfl, hZ, hh⟩ := hP
  have hx := Bd.exec
  have hby := Bd.bytes
  have hml : c.maxLocals = 5 := hml0
  have hown : s.vm.findClass "java/lang/AbstractStringBuilder" = some m.cls := findClass_of_methodNamed Bd.named
  have hnm := (name_of_methodNamed Bd.named Bd.method).1
  have X0 : Stand p l e (⟨1, 0, 0, 22⟩ : Room) s m #[(.ref a1), (.long qq)] below meth c s₁ [] 0 0 := Stand.of_body Bd
  have e0 : s₁.heap = h0 := by rw [← hh, Bd.state]; rfl
  have N0 := Fr.nil n0
  have pre0 : ∀ t, Steps p.tables e below (s₁.setTop (mkF m 0 #[.val (.ref a1), .val (.long qq), .second, .unset, .unset] [])) t → Steps p.tables e below (s₁.setTop (entryFrame m #[(.ref a1), (.long qq)] 5)) t := fun t k => castTop (ef_own_apJx2 m (a1) (qq)) k
  obtain ⟨b, k, vs, E1, F1, F2, F3, V1, hlb, w_a1, w_b, hne, Eb⟩ := B1
  have g_a1 := Nat.le_trans hn1 w_a1
  have g_b := Nat.le_trans hn1 w_b
  obtain ⟨T1, X1, e1, st1⟩ := getF X0 hx hZ hown (host := "") (Or.inl (wJ hw 166 rfl)) Via.refl e0 F3 (g := (mkF m 1 #[.val (.ref a1), .val (.long qq), .second, .unset, .unset] [(.ref a1)])) rfl rfl (hb hby d29_1)
  obtain ⟨_, _, ⟨T2, L2, k2, n2⟩, -, X2, ⟨Lc2, hQ2, l2, y2, z2⟩, st2⟩ := Jvm.LawKit.callS X1 hx (y := mn25) hown (mvT hZ (wJ hw 211 rfl)) (mvT hZ (wJ hw 212 rfl)) (mvT hZ (wJ hw 213 rfl)) (mvT hZ (wJ hw 214 rfl)) (by decide) (backOf (W := 1) (own_lszx2 l Z a0 hw [] qq  h0 n0 Z0 hq) hZ (wJ hw 214 rfl) (wJ hw 213 rfl) (by decide) (by decide)) (g := (mkF m 7 #[.val (.ref a1), .val (.long qq), .second, .val (.int (14 : Int32)), .unset] [(.long qq), (.int (14 : Int32))])) rfl (by rw [hml]; rfl) (argsL := [(.long qq)]) (rest := [(.int (14 : Int32))]) (lenOf pd__J_I rfl) rfl (by show 2 * 0 + _ ≤ _; exact Nat.le_of_eq rfl) (hb hby d29_7) (fun _ _ => ⟨rfl, e1, (by decide : 0 + 0 ≤ _), (by decide : 0 + 0 ≤ _)⟩)
  dsimp only [Pt.U, Pt.locs, Pt.cells, Pt.slots] at X2 l2 y2 z2 st2 hQ2
  replace X2 := X2.more (Nat.le_of_eq (show k2 = 0 from y2)) (Nat.le_of_eq (show n2 = 0 from z2))
  obtain ⟨rfl, Nq2, e2⟩ := hQ2
  have N2 : Fr n0 L2 := by rw [l2]; exact Fr.app N0 Nq2
  obtain ⟨cq3, kq3, q3a, q3b, q3c⟩ := isOf hZ e2 E1
  obtain ⟨_, _, ⟨T3, L3, k3, n3⟩, -, X3, ⟨Lc3, hQ3, l3, y3, z3⟩, st3⟩ := X2.virtualBack hx (y := mn17) (z := mn17) hown (mvT hZ (wJ hw 168 rfl)) (mvT hZ (own_decl (wJ hw 169 rfl) (wJ hw 172 rfl))) (notFace_of_selects (args := #[]) (mvT hZ (wJ hw 171 rfl))) (mvT hZ (wJ hw 171 rfl)) (mvT hZ (wJ hw 169 rfl)) (by decide) (backOf (W := 0) (own_ensN l Z a0 hw [] a1 (16 : Int32) b k (16 : Int32) vs h0 n0 Z0 F1 F2 V1 (by decide)) hZ (wJ hw 172 rfl) (wJ hw 87 rfl) (by decide) (by decide)) q3a q3c (g := (mkF m 16 #[.val (.ref a1), .val (.long qq), .second, .val (.int (14 : Int32)), .val (.int (16 : Int32))] [(.int (16 : Int32)), (.ref a1)])) rfl (by rw [hml]; rfl) (Steps.refl _) (argsL := [(.int (16 : Int32))]) (rest := []) (lenOf pd__I_V rfl) rfl (by show 2 * 0 + _ ≤ _; exact Nat.le_of_eq rfl) (hb hby d29_16) (fun _ _ => ⟨rfl, e2, (by decide : 0 + 0 ≤ _), (by decide : 0 + 0 ≤ _)⟩)
  dsimp only [Pt.U, Pt.locs, Pt.cells, Pt.slots] at X3 l3 y3 z3 st3 hQ3
  replace X3 := X3.more (Nat.le_of_eq (show k3 = 0 from y3)) (Nat.le_of_eq (show n3 = 0 from z3))
  obtain ⟨rfl, Nq3, e3⟩ := hQ3
  have N3 : Fr n0 L3 := by rw [l3]; exact Fr.app N2 Nq3
  obtain ⟨cq4, kq4, q4a, q4b, q4c⟩ := isOf hZ e3 E1
  obtain ⟨_, _, ⟨T4, L4, k4, n4⟩, -, X4, ⟨Lc4, hQ4, l4, y4, z4⟩, st4⟩ := X3.virtualBack hx (y := mn20) (z := mn20) hown (mvT hZ (wJ hw 216 rfl)) (mvT hZ (wJ hw 217 rfl)) (notFace_of_selects (args := #[]) (mvT hZ (wJ hw 219 rfl))) (mvT hZ (wJ hw 219 rfl)) (mvT hZ (wJ hw 218 rfl)) (by decide) (backOf (W := 0) (own_isL l Z a0 hw [] a1 cs nb h0 n0 Z0 F2 SC hcs) hZ (wJ hw 220 rfl) (wJ hw 87 rfl) (by decide) (by decide)) q4a q4c (g := (mkF m 20 #[.val (.ref a1), .val (.long qq), .second, .val (.int (14 : Int32)), .val (.int (16 : Int32))] [(.ref a1)])) rfl (by rw [hml]; rfl) (Steps.refl _) (argsL := []) (rest := []) (lenOf pd___Z rfl) rfl (by show 2 * 0 + _ ≤ _; exact Nat.le_of_eq rfl) (hb hby d29_20) (fun _ _ => ⟨rfl, e3, (by decide : 0 + 0 ≤ _), (by decide : 0 + 0 ≤ _)⟩)
  dsimp only [Pt.U, Pt.locs, Pt.cells, Pt.slots] at X4 l4 y4 z4 st4 hQ4
  replace X4 := X4.more (Nat.le_of_eq (show k4 = 0 from y4)) (Nat.le_of_eq (show n4 = 0 from z4))
  obtain ⟨rfl, Nq4, e4⟩ := hQ4
  have N4 : Fr n0 L4 := by rw [l4]; exact Fr.app N3 Nq4
  obtain ⟨T5, X5, e5, st5⟩ := getF X4 hx hZ hown (host := "") (Or.inl (wJ hw 91 rfl)) Via.refl e4 F1 (g := (mkF m 30 #[.val (.ref a1), .val (.long qq), .second, .val (.int (14 : Int32)), .val (.int (16 : Int32))] [(.ref a1), (.int (16 : Int32)), (.long qq)])) rfl rfl (hb hby d29_30)
  obtain ⟨_, _, ⟨T6, L6, k6, n6⟩, -, X6, ⟨Lc6, hQ6, l6, y6, z6⟩, st6⟩ := Jvm.LawKit.callS X5 hx (y := mn24) hown (mvT hZ (wJ hw 221 rfl)) (mvT hZ (wJ hw 222 rfl)) (mvT hZ (wJ hw 213 rfl)) (mvT hZ (wJ hw 223 rfl)) (by decide) (backOf (W := 0) (own_lgcx2 l Z a0 hw [] qq b k vs nb d1 d2 kd1 kd2 vo vt h0 n0 Z0 hq V1 hlb w_b hn1 SO ST VO VT hd1 hd2) hZ (wJ hw 223 rfl) (wJ hw 213 rfl) (by decide) (by decide)) (g := (mkF m 33 #[.val (.ref a1), .val (.long qq), .second, .val (.int (14 : Int32)), .val (.int (16 : Int32))] [(.ref b), (.int (16 : Int32)), (.long qq)])) rfl (by rw [hml]; rfl) (argsL := [(.long qq), (.int (16 : Int32)), (.ref b)]) (rest := []) (lenOf pd__JI_B_I rfl) rfl (by show 2 * 0 + _ ≤ _; exact Nat.le_of_eq rfl) (hb hby d29_33) (fun _ _ => ⟨rfl, e5, (by decide : 0 + 0 ≤ _), (by decide : 0 + 0 ≤ _)⟩)
  dsimp only [Pt.U, Pt.locs, Pt.cells, Pt.slots] at X6 l6 y6 z6 st6 hQ6
  replace X6 := X6.more (Nat.le_of_eq (show k6 = 0 from y6)) (Nat.le_of_eq (show n6 = 0 from z6))
  obtain ⟨uq, rfl, Nq6, Kq6, vs2, hl2, V2⟩ := hQ6
  have Z6 : n0 ≤ T6.heap.size := Nat.le_trans Z0 Kq6.1
  have K6 : Keep h0 T6.heap [a1, b] := (Keep.refl h0 [a1, b]).trans Kq6 (allS (Or.inl (wI 1 rfl)) all0)
  have N6 : Fr n0 L6 := by rw [l6]; exact Fr.app N4 Nq6
  have fc8 := (F3.keep Kq6 (ninS hne nin0))
  have fc9 := (E1.keep Kq6)
  obtain ⟨T7, h7, X7, e7, W7, st7⟩ := putF X6 hx hZ hown (host := "") (Or.inl (wJ hw 166 rfl)) Via.refl rfl fc8 fc9 (Or.inl (wJ hw 167 rfl)) (wJ hw 78 rfl) (ty := .int) (by decide) rfl rfl (g := (mkF m 55 #[.val (.ref a1), .val (.long qq), .second, .val (.int (14 : Int32)), .val (.int (16 : Int32))] [(.int (16 : Int32)), (.ref a1)])) rfl rfl (hb hby d29_55)
  have Fw7 := fc8.same W7
  have K7 : Keep h0 h7 [a1, b] := K6.wr W7 (Or.inl (wI 0 rfl))
  have N7 := Fr.snoc X7 N6 g_a1
  have Z7 : n0 ≤ h7.size := Nat.le_trans Z6 (Keep.of_wr W7).1
  have fc10 := (fc9.wr W7)
  have fc11 := ((F1.keep Kq6 (ninS hne nin0)).other W7 (Or.inr (slot_ne (Or.inl (wJ hw 92 rfl)) (Or.inl (wJ hw 167 rfl)) (by decide) (t := (.array .byte)) (t' := .int) (by decide) (by decide))))
  have fc12 := ((F2.keep Kq6 (ninS hne nin0)).other W7 (Or.inr (slot_ne (Or.inl (wJ hw 94 rfl)) (Or.inl (wJ hw 167 rfl)) (by decide) (t := .byte) (t' := .int) (by decide) (by decide))))
  have fc13 := (V2.other W7 (Ne.symm hne))
  have fc14 := ((Eb.keep Kq6).wr W7)
  obtain ⟨fs, hr, hrun, hended, hW, hsame⟩ := X7.leave (v := some (.ref a1)) (fun h => by rw [Bd.returns] at h; cases h)
  refine ⟨_, _, pre0 _ ?_, hrun, hended, _, _, rfl, ?_, ⟨_, rfl⟩, hW, hsame.mono (by decide) (by decide)⟩
  · show Steps p.tables e below (s₁.setTop (mkF m 0 #[.val (.ref a1), .val (.long qq), .second, .unset, .unset] [])) _
    refine XS.aloadN X0.here hx rfl (hb hby d29_0) rfl rfl ?_
    refine st1 _ ?_
    refine XS.istoreN X1.here hx rfl (hb hby d29_4) rfl (l' := #[.val (.ref a1), .val (.long qq), .second, .val (.int (14 : Int32)), .unset]) rfl ?_
    refine XS.iloadN X1.here hx rfl (hb hby d29_5) rfl ?_
    show Steps _ _ _ (T1.setTop (mkF m 6 #[.val (.ref a1), .val (.long qq), .second, .val (.int (14 : Int32)), .unset] [(.int (14 : Int32))])) _
    refine XS.lloadN X1.here hx rfl (hb hby d29_6) rfl ?_
    refine st2 _ ?_
    refine XS.iadd X2.here hx rfl (hb hby d29_10) rfl ?_
    show Steps _ _ _ (T2.setTop (mkF m 11 #[.val (.ref a1), .val (.long qq), .second, .val (.int (14 : Int32)), .unset] [(.int ((14 : Int32) + (2 : Int32)))])) _
    rw [(by decide : (14 : Int32) + (2 : Int32) = (16 : Int32))]
    show Steps _ _ _ (T2.setTop (mkF m 11 #[.val (.ref a1), .val (.long qq), .second, .val (.int (14 : Int32)), .unset] [(.int (16 : Int32))])) _
    refine XS.istore X2.here hx rfl (hb hby d29_11) rfl (l' := #[.val (.ref a1), .val (.long qq), .second, .val (.int (14 : Int32)), .val (.int (16 : Int32))]) rfl ?_
    refine XS.aloadN X2.here hx rfl (hb hby d29_13) rfl rfl ?_
    refine XS.iload X2.here hx rfl (hb hby d29_14) rfl ?_
    refine st3.trans ?_
    show Steps _ _ _ (T3.setTop (mkF m 19 #[.val (.ref a1), .val (.long qq), .second, .val (.int (14 : Int32)), .val (.int (16 : Int32))] [])) _
    refine XS.aloadN X3.here hx rfl (hb hby d29_19) rfl rfl ?_
    refine st4.trans ?_
    refine XS.ifNo X4.here hx rfl (hb hby d29_23) rfl ((if0 _ _).trans (feq (by decide : ¬ ((1 : Int32) = (0 : Int32)))).1) ?_
    refine XS.lloadN X4.here hx rfl (hb hby d29_26) rfl ?_
    show Steps _ _ _ (T4.setTop (mkF m 27 #[.val (.ref a1), .val (.long qq), .second, .val (.int (14 : Int32)), .val (.int (16 : Int32))] [(.long qq)])) _
    refine XS.iload X4.here hx rfl (hb hby d29_27) rfl ?_
    refine XS.aloadN X4.here hx rfl (hb hby d29_29) rfl rfl ?_
    refine st5 _ ?_
    refine st6 _ ?_
    show Steps _ _ _ (T6.setTop (mkF m 36 #[.val (.ref a1), .val (.long qq), .second, .val (.int (14 : Int32)), .val (.int (16 : Int32))] [(.int uq)])) _
    refine XS.pop X6.here hx rfl (hb hby d29_36) rfl rfl ?_
    refine XS.goto X6.here hx rfl (pc0 := 37) (pc' := 52) rfl (hb hby d29_37) (by decide) (by decide) ?_
    refine XS.aloadN X6.here hx rfl (hb hby d29_52) rfl rfl ?_
    refine XS.iload X6.here hx rfl (hb hby d29_53) rfl ?_
    show Steps _ _ _ (T6.setTop (mkF m 55 #[.val (.ref a1), .val (.long qq), .second, .val (.int (14 : Int32)), .val (.int (16 : Int32))] [(.int (16 : Int32)), (.ref a1)])) _
    refine st7 _ ?_
    refine XS.aloadN X7.here hx rfl (hb hby d29_58) rfl rfl ?_
    show Steps _ _ _ (T7.setTop (mkF m 59 #[.val (.ref a1), .val (.long qq), .second, .val (.int (14 : Int32)), .val (.int (16 : Int32))] [(.ref a1)])) _
    exact retOut X7 hx Bd.returns rfl (Or.inr (Or.inr (Or.inr (Or.inr ⟨rfl, rfl, rfl⟩)))) (hb hby d29_59) hr
  · show Qown_apJx2 Z a1 qq d1 d2 kd1 kd2 vo vt cs nb h0 n0 _ T7.heap _
    rw [e7]
    exact ⟨rfl, N7, ⟨_, K7, allS w_a1 (allS w_b all0)⟩, b, k, vs2, fc10, fc11, fc12, Fw7, fc13, hl2, w_a1, w_b, hne, fc14⟩
theorem ef_own_sbJx2 (m : MethodId) (x0 : Addr) (x1 : Int64) : entryFrame m #[(.ref x0), (.long x1)] 3 = mkF m 0 #[.val (.ref x0), .val (.long x1), .second] [] := by first | (simp [entryFrame, mkF, argsToLocals, Value.category]; done) | rfl
def Qown_sbJx2 (Z : State) (a1 : Addr) (qq : Int64) (d1 : Addr) (d2 : Addr) (kd1 : ClassId) (kd2 : ClassId) (vo : List Value) (vt : List Value) (cs : Int32) (nb : Nat) (h0 : Heap) (n0 : Nat) (v : Option Value) (h : Heap) (L : List Loc) : Prop := v = some (.ref a1) ∧ Fr n0 L ∧ own_W nb h0 h ∧ own_sb Z h nb a1 (16 : Int32) (16 : Int32)
theorem own_sbJx2 (l : Launch) (Z : State) (a0 : Array Value) (hw : ∀ d ∈ tables_1, d.before a0 Z = true) (ws : List Jvm.Cond) (a1 : Addr) (qq : Int64) (d1 : Addr) (d2 : Addr) (kd1 : ClassId) (kd2 : ClassId) (vo : List Value) (vt : List Value) (cs : Int32) (nb : Nat) (h0 : Heap) (n0 : Nat) (Z0 : n0 ≤ h0.size) (hq : qq = (10 : Int64) ∨ qq = (20 : Int64)) (B1 : own_sb Z h0 nb a1 (16 : Int32) (14 : Int32)) (hn1 : n0 ≤ nb) (SO : own_S Z h0 nb "java/lang/Integer" "DigitOnes" "[B" (.ref d1)) (ST : own_S Z h0 nb "java/lang/Integer" "DigitTens" "[B" (.ref d2)) (VO : Arv Z h0 d1 kd1 .byte (100 : Int32) vo (.int (0 : Int32))) (VT : Arv Z h0 d2 kd2 .byte (100 : Int32) vt (.int (0 : Int32))) (hd1 : d1 < nb) (hd2 : d2 < nb) (SC : own_S Z h0 nb "java/lang/String" "COMPACT_STRINGS" "Z" (.int cs)) (hcs : ¬ (cs = (0 : Int32))) :
    MetFree l mn38 (head1 (Jvm.Cond.code mn38 jdk_67_method_16_code 3 (some (.object "java/lang/StringBuilder")) :: ws) (⟨2, 0, 0, 38⟩ : Room)) (fun a U => a = #[(.ref a1), (.long qq)] ∧ Z.Warmed39 U.vm ∧ U.heap = h0) (fun _ _ _ _ _ => True) (fun _ U o U' => ∃ v L, o = .returned v ∧ Qown_sbJx2 Z a1 qq d1 d2 kd1 kd2 vo vt cs nb h0 n0 v U'.heap L ∧ FrameEnd U o U' L (⟨2, 0, 0, 38⟩ : Room).cells (⟨2, 0, 0, 38⟩ : Room).slots) := by
  refine MetFree.of_bodySF (plainFor_of_name pn_java_lang_StringBuilder) hisR ?_
  intro p e s m args below meth c s₁ Bd hml0 hP hK
  obtain ⟨rfl, hZ, hh⟩ := hP
  have hx := Bd.exec
  have hby := Bd.bytes
  have hml : c.maxLocals = 3 := hml0
  have hown : s.vm.findClass "java/lang/StringBuilder" = some m.cls := findClass_of_methodNamed Bd.named
  have hnm := (name_of_methodNamed Bd.named Bd.method).1
  have X0 : Stand p l e (⟨2, 0, 0, 38⟩ : Room) s m #[(.ref a1), (.long qq)] below meth c s₁ [] 0 0 := Stand.of_body Bd
  have e0 : s₁.heap = h0 := by rw [← hh, Bd.state]; rfl
  have N0 := Fr.nil n0
  have pre0 : ∀ t, Steps p.tables e below (s₁.setTop (mkF m 0 #[.val (.ref a1), .val (.long qq), .second] [])) t → Steps p.tables e below (s₁.setTop (entryFrame m #[(.ref a1), (.long qq)] 3)) t := fun t k => castTop (ef_own_sbJx2 m (a1) (qq)) k
  have E1 : Exa Z h0 a1 "java/lang/StringBuilder" := by obtain ⟨_, _, _, e, _⟩ := B1; exact e
  obtain ⟨_, _, ⟨T1, L1, k1, n1⟩, -, X1, ⟨Lc1, hQ1, l1, y1, z1⟩, st1⟩ := superBack X0 hx hZ (y := mn15) hown (wJ hw 207 rfl) (own_same (wJ hw 219 rfl) (wJ hw 210 rfl) rfl (by decide)) (wJ hw 208 rfl) (wJ hw 153 rfl) (by decide) (backOf (W := 0) (own_apJx2 l Z a0 hw [] a1 qq d1 d2 kd1 kd2 vo vt cs nb h0 n0 Z0 hq B1 hn1 SO ST VO VT hd1 hd2 SC hcs) hZ (wJ hw 210 rfl) (wJ hw 87 rfl) (by decide) (by decide)) e0 (Ins.self E1) (g := (mkF m 2 #[.val (.ref a1), .val (.long qq), .second] [(.long qq), (.ref a1)])) rfl (by rw [hml]; rfl) (wJ hw 210 rfl) (argsL := [(.long qq)]) (rest := []) (lenOf pd__J_Ljava_lang_AbstractStringBuilder_ rfl) rfl (by show 2 * 0 + _ ≤ _; exact Nat.le_of_eq rfl) (hb hby d28_2) (fun _ _ => ⟨rfl, e0, (by decide : 0 + 0 ≤ _), (by decide : 0 + 0 ≤ _)⟩)
  dsimp only [Pt.U, Pt.locs, Pt.cells, Pt.slots] at X1 l1 y1 z1 st1 hQ1
  replace X1 := X1.more (Nat.le_of_eq (show k1 = 0 from y1)) (Nat.le_of_eq (show n1 = 0 from z1))
  obtain ⟨rfl, Nq1, Wq1, B2⟩ := hQ1
  have Z1 : n0 ≤ T1.heap.size := Nat.le_trans Z0 Wq1.size
  have N1 : Fr n0 L1 := by rw [l1]; exact Fr.app N0 Nq1
  obtain ⟨fs, hr, hrun, hended, hW, hsame⟩ := X1.leave (v := some (.ref a1)) (fun h => by rw [Bd.returns] at h; cases h)
  refine ⟨_, _, pre0 _ ?_, hrun, hended, _, _, rfl, ?_, ⟨_, rfl⟩, hW, hsame.mono (by decide) (by decide)⟩
  · show Steps p.tables e below (s₁.setTop (mkF m 0 #[.val (.ref a1), .val (.long qq), .second] [])) _
    refine XS.aloadN X0.here hx rfl (hb hby d28_0) rfl rfl ?_
    refine XS.lloadN X0.here hx rfl (hb hby d28_1) rfl ?_
    refine st1.trans ?_
    refine XS.pop X1.here hx rfl (hb hby d28_5) rfl rfl ?_
    show Steps _ _ _ (T1.setTop (mkF m 6 #[.val (.ref a1), .val (.long qq), .second] [])) _
    refine XS.aloadN X1.here hx rfl (hb hby d28_6) rfl rfl ?_
    show Steps _ _ _ (T1.setTop (mkF m 7 #[.val (.ref a1), .val (.long qq), .second] [(.ref a1)])) _
    exact retOut X1 hx Bd.returns rfl (Or.inr (Or.inr (Or.inr (Or.inr ⟨rfl, rfl, rfl⟩)))) (hb hby d28_7) hr
  · show Qown_sbJx2 Z a1 qq d1 d2 kd1 kd2 vo vt cs nb h0 n0 _ T1.heap _
    exact ⟨rfl, N1, Wq1, B2⟩
theorem d41_0 : decode c41 0 = .ok (.aload_n 0, 1) := by decide +kernel
theorem d41_1 : decode c41 1 = .ok (.getfield 15, 3) := by decide +kernel
theorem d41_4 : decode c41 4 = .ok (.areturn, 1) := by decide +kernel
theorem ef_own_getV (m : MethodId) (x0 : Addr) : entryFrame m #[(.ref x0)] 1 = mkF m 0 #[.val (.ref x0)] [] := by first | (simp [entryFrame, mkF, argsToLocals, Value.category]; done) | rfl
def Qown_getV (Z : State) (a1 : Addr) (b : Addr) (h0 : Heap) (n0 : Nat) (v : Option Value) (h : Heap) (L : List Loc) : Prop := v = some (.ref b) ∧ Fr n0 L ∧ h = h0
theorem own_getV (l : Launch) (Z : State) (a0 : Array Value) (hw : ∀ d ∈ tables_1, d.before a0 Z = true) (ws : List Jvm.Cond) (a1 : Addr) (b : Addr) (h0 : Heap) (n0 : Nat) (Z0 : n0 ≤ h0.size) (F1 : Fld Z h0 a1 "java/lang/AbstractStringBuilder" "value" "[B" (.ref b)) :
    MetFree l mn18 (head1 (Jvm.Cond.code mn18 jdk_68_method_64_code 1 (some (.array .byte)) :: ws) (⟨0, 0, 0, 0⟩ : Room)) (fun a U => a = #[(.ref a1)] ∧ Z.Warmed39 U.vm ∧ U.heap = h0) (fun _ _ _ _ _ => True) (fun _ U o U' => ∃ v L, o = .returned v ∧ Qown_getV Z a1 b h0 n0 v U'.heap L ∧ FrameEnd U o U' L (⟨0, 0, 0, 0⟩ : Room).cells (⟨0, 0, 0, 0⟩ : Room).slots) := by
  refine MetFree.of_bodySF (plainFor_of_name pn_java_lang_AbstractStringBuilder) hisR ?_
  intro p e s m args below meth c s₁ Bd hml0 hP hK
  obtain ⟨rfl, hZ, hh⟩ := hP
  have hx := Bd.exec
  have hby := Bd.bytes
  have hml : c.maxLocals = 1 := hml0
  have hown : s.vm.findClass "java/lang/AbstractStringBuilder" = some m.cls := findClass_of_methodNamed Bd.named
  have hnm := (name_of_methodNamed Bd.named Bd.method).1
  have X0 : Stand p l e (⟨0, 0, 0, 0⟩ : Room) s m #[(.ref a1)] below meth c s₁ [] 0 0 := Stand.of_body Bd
  have e0 : s₁.heap = h0 := by rw [← hh, Bd.state]; rfl
  have N0 := Fr.nil n0
  have pre0 : ∀ t, Steps p.tables e below (s₁.setTop (mkF m 0 #[.val (.ref a1)] [])) t → Steps p.tables e below (s₁.setTop (entryFrame m #[(.ref a1)] 1)) t := fun t k => castTop (ef_own_getV m (a1)) k
  obtain ⟨T1, X1, e1, st1⟩ := getF X0 hx hZ hown (host := "") (Or.inl (wJ hw 91 rfl)) Via.refl e0 F1 (g := (mkF m 1 #[.val (.ref a1)] [(.ref a1)])) rfl rfl (hb hby d41_1)
  obtain ⟨fs, hr, hrun, hended, hW, hsame⟩ := X1.leave (v := some (.ref b)) (fun h => by rw [Bd.returns] at h; cases h)
  refine ⟨_, _, pre0 _ ?_, hrun, hended, _, _, rfl, ?_, ⟨_, rfl⟩, hW, hsame.mono (by decide) (by decide)⟩
  · show Steps p.tables e below (s₁.setTop (mkF m 0 #[.val (.ref a1)] [])) _
    refine XS.aloadN X0.here hx rfl (hb hby d41_0) rfl rfl ?_
    refine st1 _ ?_
    show Steps _ _ _ (T1.setTop (mkF m 4 #[.val (.ref a1)] [(.ref b)])) _
    exact retOut X1 hx Bd.returns rfl (Or.inr (Or.inr (Or.inr (Or.inr ⟨rfl, rfl, rfl⟩)))) (hb hby d41_4) hr
  · show Qown_getV Z a1 b h0 n0 _ T1.heap _
    rw [e1]
    exact ⟨rfl, N0, rfl⟩
theorem d43_0 : decode c43 0 = .ok (.aload_n 0, 1) := by decide +kernel
theorem d43_1 : decode c43 1 = .ok (.getfield 79, 3) := by decide +kernel
theorem d43_4 : decode c43 4 = .ok (.ireturn, 1) := by decide +kernel
theorem ef_own_lenA (m : MethodId) (x0 : Addr) : entryFrame m #[(.ref x0)] 1 = mkF m 0 #[.val (.ref x0)] [] := by first | (simp [entryFrame, mkF, argsToLocals, Value.category]; done) | rfl
def Qown_lenA (Z : State) (a1 : Addr) (cnt : Int32) (h0 : Heap) (n0 : Nat) (v : Option Value) (h : Heap) (L : List Loc) : Prop := v = some (.int cnt) ∧ Fr n0 L ∧ h = h0
theorem own_lenA (l : Launch) (Z : State) (a0 : Array Value) (hw : ∀ d ∈ tables_1, d.before a0 Z = true) (ws : List Jvm.Cond) (a1 : Addr) (cnt : Int32) (h0 : Heap) (n0 : Nat) (Z0 : n0 ≤ h0.size) (F1 : Fld Z h0 a1 "java/lang/AbstractStringBuilder" "count" "I" (.int cnt)) :
    MetFree l mn21 (head1 (Jvm.Cond.code mn21 jdk_68_method_6_code 1 (some .int) :: ws) (⟨0, 0, 0, 0⟩ : Room)) (fun a U => a = #[(.ref a1)] ∧ Z.Warmed39 U.vm ∧ U.heap = h0) (fun _ _ _ _ _ => True) (fun _ U o U' => ∃ v L, o = .returned v ∧ Qown_lenA Z a1 cnt h0 n0 v U'.heap L ∧ FrameEnd U o U' L (⟨0, 0, 0, 0⟩ : Room).cells (⟨0, 0, 0, 0⟩ : Room).slots) := by
  refine MetFree.of_bodySF (plainFor_of_name pn_java_lang_AbstractStringBuilder) hisR ?_
  intro p e s m args below meth c s₁ Bd hml0 hP hK
  obtain ⟨rfl, hZ, hh⟩ := hP
  have hx := Bd.exec
  have hby := Bd.bytes
  have hml : c.maxLocals = 1 := hml0
  have hown : s.vm.findClass "java/lang/AbstractStringBuilder" = some m.cls := findClass_of_methodNamed Bd.named
  have hnm := (name_of_methodNamed Bd.named Bd.method).1
  have X0 : Stand p l e (⟨0, 0, 0, 0⟩ : Room) s m #[(.ref a1)] below meth c s₁ [] 0 0 := Stand.of_body Bd
  have e0 : s₁.heap = h0 := by rw [← hh, Bd.state]; rfl
  have N0 := Fr.nil n0
  have pre0 : ∀ t, Steps p.tables e below (s₁.setTop (mkF m 0 #[.val (.ref a1)] [])) t → Steps p.tables e below (s₁.setTop (entryFrame m #[(.ref a1)] 1)) t := fun t k => castTop (ef_own_lenA m (a1)) k
  obtain ⟨T1, X1, e1, st1⟩ := getF X0 hx hZ hown (host := "") (Or.inl (wJ hw 166 rfl)) Via.refl e0 F1 (g := (mkF m 1 #[.val (.ref a1)] [(.ref a1)])) rfl rfl (hb hby d43_1)
  obtain ⟨fs, hr, hrun, hended, hW, hsame⟩ := X1.leave (v := some (.int cnt)) (fun h => by rw [Bd.returns] at h; cases h)
  refine ⟨_, _, pre0 _ ?_, hrun, hended, _, _, rfl, ?_, ⟨_, rfl⟩, hW, hsame.mono (by decide) (by decide)⟩
  · show Steps p.tables e below (s₁.setTop (mkF m 0 #[.val (.ref a1)] [])) _
    refine XS.aloadN X0.here hx rfl (hb hby d43_0) rfl rfl ?_
    refine st1 _ ?_
    show Steps _ _ _ (T1.setTop (mkF m 4 #[.val (.ref a1)] [(.int cnt)])) _
    exact retI X1 hx Bd.returns (hb hby d43_4) hr
  · show Qown_lenA Z a1 cnt h0 n0 _ T1.heap _
    rw [e1]
    exact ⟨rfl, N0, rfl⟩
theorem d42_0 : decode c42 0 = .ok (.aload_n 0, 1) := by decide +kernel
theorem d42_1 : decode c42 1 = .ok (.invokespecial 343, 3) := by decide +kernel
theorem d42_4 : decode c42 4 = .ok (.ireturn, 1) := by decide +kernel
theorem ef_own_lenB (m : MethodId) (x0 : Addr) : entryFrame m #[(.ref x0)] 1 = mkF m 0 #[.val (.ref x0)] [] := by first | (simp [entryFrame, mkF, argsToLocals, Value.category]; done) | rfl
def Qown_lenB (Z : State) (a1 : Addr) (cnt : Int32) (h0 : Heap) (n0 : Nat) (v : Option Value) (h : Heap) (L : List Loc) : Prop := v = some (.int cnt) ∧ Fr n0 L ∧ h = h0
theorem own_lenB (l : Launch) (Z : State) (a0 : Array Value) (hw : ∀ d ∈ tables_1, d.before a0 Z = true) (ws : List Jvm.Cond) (a1 : Addr) (cnt : Int32) (h0 : Heap) (n0 : Nat) (Z0 : n0 ≤ h0.size) (F1 : Fld Z h0 a1 "java/lang/AbstractStringBuilder" "count" "I" (.int cnt)) (E1 : Exa Z h0 a1 "java/lang/StringBuilder") :
    MetFree l mn40 (head1 (Jvm.Cond.code mn40 jdk_67_method_93_code 1 (some .int) :: ws) (⟨1, 0, 0, 12⟩ : Room)) (fun a U => a = #[(.ref a1)] ∧ Z.Warmed39 U.vm ∧ U.heap = h0) (fun _ _ _ _ _ => True) (fun _ U o U' => ∃ v L, o = .returned v ∧ Qown_lenB Z a1 cnt h0 n0 v U'.heap L ∧ FrameEnd U o U' L (⟨1, 0, 0, 12⟩ : Room).cells (⟨1, 0, 0, 12⟩ : Room).slots) := by
  refine MetFree.of_bodySF (plainFor_of_name pn_java_lang_StringBuilder) hisR ?_
  intro p e s m args below meth c s₁ Bd hml0 hP hK
  obtain ⟨rfl, hZ, hh⟩ := hP
  have hx := Bd.exec
  have hby := Bd.bytes
  have hml : c.maxLocals = 1 := hml0
  have hown : s.vm.findClass "java/lang/StringBuilder" = some m.cls := findClass_of_methodNamed Bd.named
  have hnm := (name_of_methodNamed Bd.named Bd.method).1
  have X0 : Stand p l e (⟨1, 0, 0, 12⟩ : Room) s m #[(.ref a1)] below meth c s₁ [] 0 0 := Stand.of_body Bd
  have e0 : s₁.heap = h0 := by rw [← hh, Bd.state]; rfl
  have N0 := Fr.nil n0
  have pre0 : ∀ t, Steps p.tables e below (s₁.setTop (mkF m 0 #[.val (.ref a1)] [])) t → Steps p.tables e below (s₁.setTop (entryFrame m #[(.ref a1)] 1)) t := fun t k => castTop (ef_own_lenB m (a1)) k
  obtain ⟨_, _, ⟨T1, L1, k1, n1⟩, -, X1, ⟨Lc1, hQ1, l1, y1, z1⟩, st1⟩ := superBack X0 hx hZ (y := mn21) hown (wJ hw 277 rfl) (own_same (wJ hw 219 rfl) (wJ hw 278 rfl) rfl (by decide)) (wJ hw 273 rfl) (wJ hw 153 rfl) (by decide) (backOf (W := 0) (own_lenA l Z a0 hw [] a1 cnt h0 n0 Z0 F1) hZ (wJ hw 278 rfl) (wJ hw 87 rfl) (by decide) (by decide)) e0 (Ins.self E1) (g := (mkF m 1 #[.val (.ref a1)] [(.ref a1)])) rfl (by rw [hml]; rfl) (wJ hw 278 rfl) (argsL := []) (rest := []) (lenOf pd___I rfl) rfl (by show 2 * 0 + _ ≤ _; exact Nat.le_of_eq rfl) (hb hby d42_1) (fun _ _ => ⟨rfl, e0, (by decide : 0 + 0 ≤ _), (by decide : 0 + 0 ≤ _)⟩)
  dsimp only [Pt.U, Pt.locs, Pt.cells, Pt.slots] at X1 l1 y1 z1 st1 hQ1
  replace X1 := X1.more (Nat.le_of_eq (show k1 = 0 from y1)) (Nat.le_of_eq (show n1 = 0 from z1))
  obtain ⟨rfl, Nq1, e1⟩ := hQ1
  have N1 : Fr n0 L1 := by rw [l1]; exact Fr.app N0 Nq1
  obtain ⟨fs, hr, hrun, hended, hW, hsame⟩ := X1.leave (v := some (.int cnt)) (fun h => by rw [Bd.returns] at h; cases h)
  refine ⟨_, _, pre0 _ ?_, hrun, hended, _, _, rfl, ?_, ⟨_, rfl⟩, hW, hsame.mono (by decide) (by decide)⟩
  · show Steps p.tables e below (s₁.setTop (mkF m 0 #[.val (.ref a1)] [])) _
    refine XS.aloadN X0.here hx rfl (hb hby d42_0) rfl rfl ?_
    refine st1.trans ?_
    show Steps _ _ _ (T1.setTop (mkF m 4 #[.val (.ref a1)] [(.int cnt)])) _
    exact retI X1 hx Bd.returns (hb hby d42_4) hr
  · show Qown_lenB Z a1 cnt h0 n0 _ T1.heap _
    rw [e1]
    exact ⟨rfl, N1, rfl⟩
theorem d46_0 : decode c46 0 = .ok (.iload_n 1, 1) := by decide +kernel
theorem d46_1 : decode c46 1 = .ok (.iload_n 0, 1) := by decide +kernel
theorem d46_2 : decode c46 2 = .ok (.if_icmp .ge 35, 3) := by decide +kernel
theorem d46_37 : decode c46 37 = .ok (.return_, 1) := by decide +kernel
theorem ef_own_chk (m : MethodId) (x0 : Int32) (x1 : Int32) : entryFrame m #[(.int x0), (.int x1)] 2 = mkF m 0 #[.val (.int x0), .val (.int x1)] [] := by first | (simp [entryFrame, mkF, argsToLocals, Value.category]; done) | rfl
def Qown_chk (Z : State) (p1 : Int32) (p2 : Int32) (h0 : Heap) (n0 : Nat) (v : Option Value) (h : Heap) (L : List Loc) : Prop := v = none ∧ Fr n0 L ∧ h = h0
theorem own_chk (l : Launch) (Z : State) (a0 : Array Value) (hw : ∀ d ∈ tables_1, d.before a0 Z = true) (ws : List Jvm.Cond) (p1 : Int32) (p2 : Int32) (h0 : Heap) (n0 : Nat) (Z0 : n0 ≤ h0.size) (hc : ¬ (p2 < p1)) :
    MetFree l mn45 (head1 (Jvm.Cond.code mn45 jdk_65_method_131_code 2 none :: ws) (⟨0, 0, 0, 0⟩ : Room)) (fun a U => a = #[(.int p1), (.int p2)] ∧ Z.Warmed39 U.vm ∧ U.heap = h0) (fun _ _ _ _ _ => True) (fun _ U o U' => ∃ v L, o = .returned v ∧ Qown_chk Z p1 p2 h0 n0 v U'.heap L ∧ FrameEnd U o U' L (⟨0, 0, 0, 0⟩ : Room).cells (⟨0, 0, 0, 0⟩ : Room).slots) := by
  refine MetFree.of_bodySF (plainFor_of_name pn_java_util_Arrays) hisR ?_
  intro p e s m args below meth c s₁ Bd hml0 hP hK
  obtain ⟨rfl, hZ, hh⟩ := hP
  have hx := Bd.exec
  have hby := Bd.bytes
  have hml : c.maxLocals = 2 := hml0
  have hown : s.vm.findClass "java/util/Arrays" = some m.cls := findClass_of_methodNamed Bd.named
  have hnm := (name_of_methodNamed Bd.named Bd.method).1
  have X0 : Stand p l e (⟨0, 0, 0, 0⟩ : Room) s m #[(.int p1), (.int p2)] below meth c s₁ [] 0 0 := Stand.of_body Bd
  have e0 : s₁.heap = h0 := by rw [← hh, Bd.state]; rfl
  have N0 := Fr.nil n0
  have pre0 : ∀ t, Steps p.tables e below (s₁.setTop (mkF m 0 #[.val (.int p1), .val (.int p2)] [])) t → Steps p.tables e below (s₁.setTop (entryFrame m #[(.int p1), (.int p2)] 2)) t := fun t k => castTop (ef_own_chk m (p1) (p2)) k
  obtain ⟨fs, hr, hrun, hended, hW, hsame⟩ := X0.leave (v := none) (fun _ => rfl)
  refine ⟨_, _, pre0 _ ?_, hrun, hended, _, _, rfl, ?_, ⟨_, rfl⟩, hW, hsame.mono (by decide) (by decide)⟩
  · show Steps p.tables e below (s₁.setTop (mkF m 0 #[.val (.int p1), .val (.int p2)] [])) _
    refine XS.iloadN X0.here hx rfl (hb hby d46_0) rfl ?_
    refine XS.iloadN X0.here hx rfl (hb hby d46_1) rfl ?_
    refine XS.icmpYes X0.here hx rfl (pc0 := 2) (pc' := 37) rfl (hb hby d46_2) rfl (flt (hc : ¬ (p2 < p1))).2.1 (by decide) (by decide) ?_
    show Steps _ _ _ (s₁.setTop (mkF m 37 #[.val (.int p1), .val (.int p2)] [])) _
    exact X0.returnOut hx Bd.returns (hb hby d46_37) hr
  · show Qown_chk Z p1 p2 h0 n0 _ s₁.heap _
    rw [e0]
    exact ⟨rfl, N0, rfl⟩
theorem d45_0 : decode c45 0 = .ok (.iload_n 1, 1) := by decide +kernel
theorem d45_1 : decode c45 1 = .ok (.iload_n 2, 1) := by decide +kernel
theorem d45_2 : decode c45 2 = .ok (.invokestatic 343, 3) := by decide +kernel
theorem pd__II_V : parseMethodDescriptor "(II)V" = some ⟨[.int, .int], none⟩ := by decide +kernel
theorem d45_5 : decode c45 5 = .ok (.iload_n 2, 1) := by decide +kernel
theorem d45_6 : decode c45 6 = .ok (.iload_n 1, 1) := by decide +kernel
theorem d45_7 : decode c45 7 = .ok (.isub, 1) := by decide +kernel
theorem d45_8 : decode c45 8 = .ok (.istore_n 3, 1) := by decide +kernel
theorem d45_9 : decode c45 9 = .ok (.iload_n 3, 1) := by decide +kernel
theorem d45_10 : decode c45 10 = .ok (.newarray .byte, 2) := by decide +kernel
theorem d45_12 : decode c45 12 = .ok (.astore 4, 2) := by decide +kernel
theorem d45_14 : decode c45 14 = .ok (.aload_n 0, 1) := by decide +kernel
theorem d45_15 : decode c45 15 = .ok (.iload_n 1, 1) := by decide +kernel
theorem d45_16 : decode c45 16 = .ok (.aload 4, 2) := by decide +kernel
theorem d45_18 : decode c45 18 = .ok (.iconst 0, 1) := by decide +kernel
theorem d45_19 : decode c45 19 = .ok (.aload_n 0, 1) := by decide +kernel
theorem d45_20 : decode c45 20 = .ok (.arraylength, 1) := by decide +kernel
theorem d45_21 : decode c45 21 = .ok (.iload_n 1, 1) := by decide +kernel
theorem d45_22 : decode c45 22 = .ok (.isub, 1) := by decide +kernel
theorem d45_23 : decode c45 23 = .ok (.iload_n 3, 1) := by decide +kernel
theorem d45_24 : decode c45 24 = .ok (.invokestatic 304, 3) := by decide +kernel
theorem d45_27 : decode c45 27 = .ok (.invokestatic 150, 3) := by decide +kernel
theorem d45_30 : decode c45 30 = .ok (.aload 4, 2) := by decide +kernel
theorem d45_32 : decode c45 32 = .ok (.areturn, 1) := by decide +kernel
theorem ef_own_crb_17 (m : MethodId) (x0 : Addr) (x1 : Int32) (x2 : Int32) : entryFrame m #[(.ref x0), (.int x1), (.int x2)] 5 = mkF m 0 #[.val (.ref x0), .val (.int x1), .val (.int x2), .unset, .unset] [] := by first | (simp [entryFrame, mkF, argsToLocals, Value.category]; done) | rfl
def Qown_crb_17 (Z : State) (a1 : Addr) (k : ClassId) (vs : List Value) (h0 : Heap) (n0 : Nat) (v : Option Value) (h : Heap) (L : List Loc) : Prop := (∃ b2 : Addr, v = some (.ref b2) ∧ Fr n0 L ∧ Keep h0 h [] ∧ n0 ≤ b2 ∧ h0.size ≤ b2 ∧ ∃ (k2 : ClassId) (vs2 : List Value), vs2.length = (17 : Int32).toNatClampNeg ∧ Arv Z h b2 k2 .byte (17 : Int32) vs2 (.int (0 : Int32)))
theorem own_crb_17 (l : Launch) (Z : State) (a0 : Array Value) (hw : ∀ d ∈ tables_1, d.before a0 Z = true) (ws : List Jvm.Cond) (a1 : Addr) (k : ClassId) (vs : List Value) (h0 : Heap) (n0 : Nat) (Z0 : n0 ≤ h0.size) (V1 : Arv Z h0 a1 k .byte (34 : Int32) vs (.int (0 : Int32))) :
    MetFree l mn48 (head1 (Jvm.Cond.code mn48 jdk_65_method_133_code 5 (some (.array .byte)) :: ws) (⟨1, 1, 17, 18⟩ : Room)) (fun a U => a = #[(.ref a1), (.int (0 : Int32)), (.int (17 : Int32))] ∧ Z.Warmed39 U.vm ∧ U.heap = h0) (fun _ _ _ _ _ => True) (fun _ U o U' => ∃ v L, o = .returned v ∧ Qown_crb_17 Z a1 k vs h0 n0 v U'.heap L ∧ FrameEnd U o U' L (⟨1, 1, 17, 18⟩ : Room).cells (⟨1, 1, 17, 18⟩ : Room).slots) := by
  refine MetFree.of_bodySF (plainFor_of_name pn_java_util_Arrays) hisR ?_
  intro p e s m args below meth c s₁ Bd hml0 hP hK
  obtain ⟨rfl, hZ, hh⟩ := hP
  have hx := Bd.exec
  have hby := Bd.bytes
  have hml : c.maxLocals = 5 := hml0
  have hown : s.vm.findClass "java/util/Arrays" = some m.cls := findClass_of_methodNamed Bd.named
  have hnm := (name_of_methodNamed Bd.named Bd.method).1
  have X0 : Stand p l e (⟨1, 1, 17, 18⟩ : Room) s m #[(.ref a1), (.int (0 : Int32)), (.int (17 : Int32))] below meth c s₁ [] 0 0 := Stand.of_body Bd
  have e0 : s₁.heap = h0 := by rw [← hh, Bd.state]; rfl
  have N0 := Fr.nil n0
  have pre0 : ∀ t, Steps p.tables e below (s₁.setTop (mkF m 0 #[.val (.ref a1), .val (.int (0 : Int32)), .val (.int (17 : Int32)), .unset, .unset] [])) t → Steps p.tables e below (s₁.setTop (entryFrame m #[(.ref a1), (.int (0 : Int32)), (.int (17 : Int32))] 5)) t := fun t k => castTop (ef_own_crb_17 m (a1) ((0 : Int32)) ((17 : Int32))) k
  obtain ⟨_, _, ⟨T1, L1, k1, n1⟩, -, X1, ⟨Lc1, hQ1, l1, y1, z1⟩, st1⟩ := Jvm.LawKit.callS X0 hx (y := mn45) hown (mvT hZ (wJ hw 286 rfl)) (mvT hZ (wJ hw 287 rfl)) (mvT hZ (wJ hw 248 rfl)) (mvT hZ (wJ hw 288 rfl)) (by decide) (backOf (W := 0) (own_chk l Z a0 hw [] (0 : Int32) (17 : Int32)  h0 n0 Z0 (by decide)) hZ (wJ hw 288 rfl) (wJ hw 248 rfl) (by decide) (by decide)) (g := (mkF m 2 #[.val (.ref a1), .val (.int (0 : Int32)), .val (.int (17 : Int32)), .unset, .unset] [(.int (17 : Int32)), (.int (0 : Int32))])) rfl (by rw [hml]; rfl) (argsL := [(.int (0 : Int32)), (.int (17 : Int32))]) (rest := []) (lenOf pd__II_V rfl) rfl (by show 2 * 0 + _ ≤ _; exact Nat.le_of_eq rfl) (hb hby d45_2) (fun _ _ => ⟨rfl, e0, (by decide : 0 + 0 ≤ _), (by decide : 0 + 0 ≤ _)⟩)
  dsimp only [Pt.U, Pt.locs, Pt.cells, Pt.slots] at X1 l1 y1 z1 st1 hQ1
  replace X1 := X1.more (Nat.le_of_eq (show k1 = 0 from y1)) (Nat.le_of_eq (show n1 = 0 from z1))
  obtain ⟨rfl, Nq1, e1⟩ := hQ1
  have N1 : Fr n0 L1 := by rw [l1]; exact Fr.app N0 Nq1
  obtain ⟨T2, h2, k2, X2, e2, E2, A2, st2⟩ := newP X1 hx hZ (wJ hw 14 rfl) e1 (g := (mkF m 10 #[.val (.ref a1), .val (.int (0 : Int32)), .val (.int (17 : Int32)), .val (.int (17 : Int32)), .unset] [(.int (17 : Int32))])) rfl (hb hby d45_10) rfl (by decide) (cap := 17) (by decide) (by decide) (by decide) (by decide)
  obtain ⟨b2, g2⟩ : ∃ z, z = h0.size := ⟨_, rfl⟩
  rw [← g2] at A2 st2
  have V2 : Arv Z h2 b2 k2 .byte (17 : Int32) [(.int (0 : Int32)), (.int (0 : Int32)), (.int (0 : Int32)), (.int (0 : Int32)), (.int (0 : Int32)), (.int (0 : Int32)), (.int (0 : Int32)), (.int (0 : Int32)), (.int (0 : Int32)), (.int (0 : Int32)), (.int (0 : Int32)), (.int (0 : Int32)), (.int (0 : Int32)), (.int (0 : Int32)), (.int (0 : Int32)), (.int (0 : Int32)), (.int (0 : Int32))] (.int (0 : Int32)) := (Arv.new A2 (by decide)).pad (pad_rep [] (.int (0 : Int32)) 17)
  have g_b2 : n0 ≤ b2 := Nat.le_trans Z0 (Nat.le_of_eq g2.symm)
  have sz_b2 : h0.size ≤ b2 := Nat.le_trans (Keep.refl h0 []).1 (Nat.le_of_eq g2.symm)
  have Z2 : n0 ≤ h2.size := Nat.le_trans Z0 E2.1
  have K2 : Keep h0 h2 [] := (Keep.refl h0 []).ext E2
  have fc4 := (V1.ext E2)
  obtain ⟨cl3, Ar3, qc3, S3, Nn3, H3, G3⟩ := id fc4
  obtain ⟨_, _, ⟨T5, L5, k5, n5⟩, -, X5, ⟨Lc5, hQ5, l5, y5, z5⟩, st5⟩ := Jvm.LawKit.callS X2 hx (y := mn27) hown (mvT hZ (wJ hw 250 rfl)) (mvT hZ (wJ hw 251 rfl)) (mvT hZ (wJ hw 242 rfl)) (mvT hZ (wJ hw 252 rfl)) (by decide) (backOf (W := 4) (own_min2 l Z a0 hw [] (34 : Int32) (17 : Int32)  h2 n0 Z2 (by decide)) hZ (wJ hw 252 rfl) (wJ hw 242 rfl) (by decide) (by decide)) (g := (mkF m 24 #[.val (.ref a1), .val (.int (0 : Int32)), .val (.int (17 : Int32)), .val (.int (17 : Int32)), .val (.ref b2)] [(.int (17 : Int32)), (.int (34 : Int32)), (.int (0 : Int32)), (.ref b2), (.int (0 : Int32)), (.ref a1)])) rfl (by rw [hml]; rfl) (argsL := [(.int (34 : Int32)), (.int (17 : Int32))]) (rest := [(.int (0 : Int32)), (.ref b2), (.int (0 : Int32)), (.ref a1)]) (lenOf pd__II_I rfl) rfl (by show 2 * 0 + _ ≤ _; exact Nat.le_of_eq rfl) (hb hby d45_24) (fun _ _ => ⟨rfl, e2, (by decide : 1 + 0 ≤ _), (by decide : 17 + 0 ≤ _)⟩)
  dsimp only [Pt.U, Pt.locs, Pt.cells, Pt.slots] at X5 l5 y5 z5 st5 hQ5
  replace X5 := X5.more (Nat.le_of_eq (show k5 = 1 from y5)) (Nat.le_of_eq (show n5 = 17 from z5))
  obtain ⟨rfl, Nq5, e5⟩ := hQ5
  have N5 : Fr n0 L5 := by rw [l5]; exact Fr.app N1 Nq5
  have ne_a1_b2 : a1 ≠ b2 := Nat.ne_of_lt (Nat.lt_of_lt_of_le V1.lt (Nat.le_of_eq g2.symm))
  obtain ⟨T6, h6, L6, X6, e6, N6, Kq6, V6, st6⟩ := cpA X5 hx hZ hown (wJ hw 253 rfl) (wJ hw 192 rfl) (wJ hw 190 rfl) (wJ hw 191 rfl) e5 fc4 V2 (Or.inl ⟨rfl, rfl⟩) (by decide) (by decide) (by decide) (by decide) (by decide) rfl (by decide) N5 g_b2 (g := (mkF m 27 #[.val (.ref a1), .val (.int (0 : Int32)), .val (.int (17 : Int32)), .val (.int (17 : Int32)), .val (.ref b2)] [(.int (17 : Int32)), (.int (0 : Int32)), (.ref b2), (.int (0 : Int32)), (.ref a1)])) rfl (by rw [hml]; rfl) rfl (hb hby d45_27) (by decide) (W := 0) (by show 2 * 0 + _ ≤ _; exact Nat.le_of_eq rfl) (by decide)
  obtain ⟨vs6, hl6, Vc6⟩ : ∃ w : List Value, w.length = ([(.int (0 : Int32)), (.int (0 : Int32)), (.int (0 : Int32)), (.int (0 : Int32)), (.int (0 : Int32)), (.int (0 : Int32)), (.int (0 : Int32)), (.int (0 : Int32)), (.int (0 : Int32)), (.int (0 : Int32)), (.int (0 : Int32)), (.int (0 : Int32)), (.int (0 : Int32)), (.int (0 : Int32)), (.int (0 : Int32)), (.int (0 : Int32)), (.int (0 : Int32))] : List Value).length ∧ Arv Z h6 b2 k2 .byte (17 : Int32) w (.int (0 : Int32)) := ⟨_, own_len _ _ rfl (by decide), V6⟩
  have Z6 : n0 ≤ h6.size := Nat.le_trans Z2 Kq6.1
  have K6 : Keep h0 h6 [] := K2.trans Kq6 (allS (Or.inr sz_b2) all0)
  obtain ⟨fs, hr, hrun, hended, hW, hsame⟩ := X6.leave (v := some (.ref b2)) (fun h => by rw [Bd.returns] at h; cases h)
  refine ⟨_, _, pre0 _ ?_, hrun, hended, _, _, rfl, ?_, ⟨_, rfl⟩, hW, hsame.mono (by decide) (by decide)⟩
  · show Steps p.tables e below (s₁.setTop (mkF m 0 #[.val (.ref a1), .val (.int (0 : Int32)), .val (.int (17 : Int32)), .unset, .unset] [])) _
    refine XS.iloadN X0.here hx rfl (hb hby d45_0) rfl ?_
    refine XS.iloadN X0.here hx rfl (hb hby d45_1) rfl ?_
    refine st1 _ ?_
    refine XS.iloadN X1.here hx rfl (hb hby d45_5) rfl ?_
    show Steps _ _ _ (T1.setTop (mkF m 6 #[.val (.ref a1), .val (.int (0 : Int32)), .val (.int (17 : Int32)), .unset, .unset] [(.int (17 : Int32))])) _
    refine XS.iloadN X1.here hx rfl (hb hby d45_6) rfl ?_
    refine XS.isub X1.here hx rfl (hb hby d45_7) rfl ?_
    show Steps _ _ _ (T1.setTop (mkF m 8 #[.val (.ref a1), .val (.int (0 : Int32)), .val (.int (17 : Int32)), .unset, .unset] [(.int ((17 : Int32) - (0 : Int32)))])) _
    rw [(by decide : (17 : Int32) - (0 : Int32) = (17 : Int32))]
    show Steps _ _ _ (T1.setTop (mkF m 8 #[.val (.ref a1), .val (.int (0 : Int32)), .val (.int (17 : Int32)), .unset, .unset] [(.int (17 : Int32))])) _
    refine XS.istoreN X1.here hx rfl (hb hby d45_8) rfl (l' := #[.val (.ref a1), .val (.int (0 : Int32)), .val (.int (17 : Int32)), .val (.int (17 : Int32)), .unset]) rfl ?_
    refine XS.iloadN X1.here hx rfl (hb hby d45_9) rfl ?_
    refine st2 _ ?_
    refine XS.astore X2.here hx rfl (hb hby d45_12) rfl rfl (l' := #[.val (.ref a1), .val (.int (0 : Int32)), .val (.int (17 : Int32)), .val (.int (17 : Int32)), .val (.ref b2)]) rfl ?_
    show Steps _ _ _ (T2.setTop (mkF m 14 #[.val (.ref a1), .val (.int (0 : Int32)), .val (.int (17 : Int32)), .val (.int (17 : Int32)), .val (.ref b2)] [])) _
    refine XS.aloadN X2.here hx rfl (hb hby d45_14) rfl rfl ?_
    refine XS.iloadN X2.here hx rfl (hb hby d45_15) rfl ?_
    refine XS.aload X2.here hx rfl (hb hby d45_16) rfl rfl ?_
    refine XS.iconst X2.here hx rfl (hb hby d45_18) ?_
    show Steps _ _ _ (T2.setTop (mkF m 19 #[.val (.ref a1), .val (.int (0 : Int32)), .val (.int (17 : Int32)), .val (.int (17 : Int32)), .val (.ref b2)] [(.int (0 : Int32)), (.ref b2), (.int (0 : Int32)), (.ref a1)])) _
    refine XS.aloadN X2.here hx rfl (hb hby d45_19) rfl rfl ?_
    refine X2.arraylength hx (by rw [e2]; exact Ar3.1) (State.isArrayOf_alike hZ.alike Ar3.2.1) (g := (mkF m 20 #[.val (.ref a1), .val (.int (0 : Int32)), .val (.int (17 : Int32)), .val (.int (17 : Int32)), .val (.ref b2)] [(.ref a1), (.int (0 : Int32)), (.ref b2), (.int (0 : Int32)), (.ref a1)])) rfl rfl (hb hby d45_20) _ ?_
    rw [len_of S3 Nn3]
    show Steps _ _ _ (T2.setTop (mkF m 21 #[.val (.ref a1), .val (.int (0 : Int32)), .val (.int (17 : Int32)), .val (.int (17 : Int32)), .val (.ref b2)] [(.int (34 : Int32)), (.int (0 : Int32)), (.ref b2), (.int (0 : Int32)), (.ref a1)])) _
    refine XS.iloadN X2.here hx rfl (hb hby d45_21) rfl ?_
    refine XS.isub X2.here hx rfl (hb hby d45_22) rfl ?_
    show Steps _ _ _ (T2.setTop (mkF m 23 #[.val (.ref a1), .val (.int (0 : Int32)), .val (.int (17 : Int32)), .val (.int (17 : Int32)), .val (.ref b2)] [(.int ((34 : Int32) - (0 : Int32))), (.int (0 : Int32)), (.ref b2), (.int (0 : Int32)), (.ref a1)])) _
    rw [(by decide : (34 : Int32) - (0 : Int32) = (34 : Int32))]
    show Steps _ _ _ (T2.setTop (mkF m 23 #[.val (.ref a1), .val (.int (0 : Int32)), .val (.int (17 : Int32)), .val (.int (17 : Int32)), .val (.ref b2)] [(.int (34 : Int32)), (.int (0 : Int32)), (.ref b2), (.int (0 : Int32)), (.ref a1)])) _
    refine XS.iloadN X2.here hx rfl (hb hby d45_23) rfl ?_
    refine st5 _ ?_
    refine st6 _ ?_
    refine XS.aload X6.here hx rfl (hb hby d45_30) rfl rfl ?_
    show Steps _ _ _ (T6.setTop (mkF m 32 #[.val (.ref a1), .val (.int (0 : Int32)), .val (.int (17 : Int32)), .val (.int (17 : Int32)), .val (.ref b2)] [(.ref b2)])) _
    exact retOut X6 hx Bd.returns rfl (Or.inr (Or.inr (Or.inr (Or.inr ⟨rfl, rfl, rfl⟩)))) (hb hby d45_32) hr
  · show Qown_crb_17 Z a1 k vs h0 n0 _ T6.heap _
    rw [e6]
    exact ⟨b2, rfl, N6, K6, g_b2, sz_b2, k2, vs6, by rw [hl6]; rfl, Vc6⟩
theorem d44_0 : decode c44 0 = .ok (.iload_n 1, 1) := by decide +kernel
theorem d44_1 : decode c44 1 = .ok (.ifCond .ne 9, 3) := by decide +kernel
theorem d44_4 : decode c44 4 = .ok (.iload_n 2, 1) := by decide +kernel
theorem d44_5 : decode c44 5 = .ok (.aload_n 0, 1) := by decide +kernel
theorem d44_6 : decode c44 6 = .ok (.arraylength, 1) := by decide +kernel
theorem d44_7 : decode c44 7 = .ok (.if_icmp .eq 10, 3) := by decide +kernel
theorem d44_10 : decode c44 10 = .ok (.aload_n 0, 1) := by decide +kernel
theorem d44_11 : decode c44 11 = .ok (.iload_n 1, 1) := by decide +kernel
theorem d44_12 : decode c44 12 = .ok (.iload_n 2, 1) := by decide +kernel
theorem d44_13 : decode c44 13 = .ok (.invokestatic 339, 3) := by decide +kernel
theorem pd___BII__B : parseMethodDescriptor "([BII)[B" = some ⟨[(.array .byte), .int, .int], some (.array .byte)⟩ := by decide +kernel
theorem d44_16 : decode c44 16 = .ok (.areturn, 1) := by decide +kernel
theorem ef_own_cr_17 (m : MethodId) (x0 : Addr) (x1 : Int32) (x2 : Int32) : entryFrame m #[(.ref x0), (.int x1), (.int x2)] 3 = mkF m 0 #[.val (.ref x0), .val (.int x1), .val (.int x2)] [] := by first | (simp [entryFrame, mkF, argsToLocals, Value.category]; done) | rfl
def Qown_cr_17 (Z : State) (a1 : Addr) (k : ClassId) (vs : List Value) (h0 : Heap) (n0 : Nat) (v : Option Value) (h : Heap) (L : List Loc) : Prop := (∃ b2 : Addr, v = some (.ref b2) ∧ Fr n0 L ∧ Keep h0 h [] ∧ n0 ≤ b2 ∧ h0.size ≤ b2 ∧ ∃ (k2 : ClassId) (vs2 : List Value), vs2.length = (17 : Int32).toNatClampNeg ∧ Arv Z h b2 k2 .byte (17 : Int32) vs2 (.int (0 : Int32)))
theorem own_cr_17 (l : Launch) (Z : State) (a0 : Array Value) (hw : ∀ d ∈ tables_1, d.before a0 Z = true) (ws : List Jvm.Cond) (a1 : Addr) (k : ClassId) (vs : List Value) (h0 : Heap) (n0 : Nat) (Z0 : n0 ≤ h0.size) (V1 : Arv Z h0 a1 k .byte (34 : Int32) vs (.int (0 : Int32))) :
    MetFree l mn47 (head1 (Jvm.Cond.code mn47 jdk_65_method_132_code 3 (some (.array .byte)) :: ws) (⟨2, 1, 17, 34⟩ : Room)) (fun a U => a = #[(.ref a1), (.int (0 : Int32)), (.int (17 : Int32))] ∧ Z.Warmed39 U.vm ∧ U.heap = h0) (fun _ _ _ _ _ => True) (fun _ U o U' => ∃ v L, o = .returned v ∧ Qown_cr_17 Z a1 k vs h0 n0 v U'.heap L ∧ FrameEnd U o U' L (⟨2, 1, 17, 34⟩ : Room).cells (⟨2, 1, 17, 34⟩ : Room).slots) := by
  refine MetFree.of_bodySF (plainFor_of_name pn_java_util_Arrays) hisR ?_
  intro p e s m args below meth c s₁ Bd hml0 hP hK
  obtain ⟨rfl, hZ, hh⟩ := hP
  have hx := Bd.exec
  have hby := Bd.bytes
  have hml : c.maxLocals = 3 := hml0
  have hown : s.vm.findClass "java/util/Arrays" = some m.cls := findClass_of_methodNamed Bd.named
  have hnm := (name_of_methodNamed Bd.named Bd.method).1
  have X0 : Stand p l e (⟨2, 1, 17, 34⟩ : Room) s m #[(.ref a1), (.int (0 : Int32)), (.int (17 : Int32))] below meth c s₁ [] 0 0 := Stand.of_body Bd
  have e0 : s₁.heap = h0 := by rw [← hh, Bd.state]; rfl
  have N0 := Fr.nil n0
  have pre0 : ∀ t, Steps p.tables e below (s₁.setTop (mkF m 0 #[.val (.ref a1), .val (.int (0 : Int32)), .val (.int (17 : Int32))] [])) t → Steps p.tables e below (s₁.setTop (entryFrame m #[(.ref a1), (.int (0 : Int32)), (.int (17 : Int32))] 3)) t := fun t k => castTop (ef_own_cr_17 m (a1) ((0 : Int32)) ((17 : Int32))) k
  obtain ⟨cl1, Ar1, qc1, S1, Nn1, H1, G1⟩ := id V1
  obtain ⟨_, _, ⟨T2, L2, k2, n2⟩, -, X2, ⟨Lc2, hQ2, l2, y2, z2⟩, st2⟩ := Jvm.LawKit.callS X0 hx (y := mn48) hown (mvT hZ (wJ hw 283 rfl)) (mvT hZ (wJ hw 284 rfl)) (mvT hZ (wJ hw 248 rfl)) (mvT hZ (wJ hw 285 rfl)) (by decide) (backOf (W := 0) (own_crb_17 l Z a0 hw [] a1 k vs h0 n0 Z0 V1) hZ (wJ hw 285 rfl) (wJ hw 248 rfl) (by decide) (by decide)) (g := (mkF m 13 #[.val (.ref a1), .val (.int (0 : Int32)), .val (.int (17 : Int32))] [(.int (17 : Int32)), (.int (0 : Int32)), (.ref a1)])) rfl (by rw [hml]; rfl) (argsL := [(.ref a1), (.int (0 : Int32)), (.int (17 : Int32))]) (rest := []) (lenOf pd___BII__B rfl) rfl (by show 2 * 0 + _ ≤ _; exact Nat.le_of_eq rfl) (hb hby d44_13) (fun _ _ => ⟨rfl, e0, (by decide : 0 + 1 ≤ _), (by decide : 0 + 17 ≤ _)⟩)
  dsimp only [Pt.U, Pt.locs, Pt.cells, Pt.slots] at X2 l2 y2 z2 st2 hQ2
  replace X2 := X2.more (Nat.le_of_eq (show k2 = 1 from y2)) (Nat.le_of_eq (show n2 = 17 from z2))
  obtain ⟨b2, rfl, Nq2, Kq2, g2, s2, k2, vs2, hl2, V2⟩ := hQ2
  have Z2 : n0 ≤ T2.heap.size := Nat.le_trans Z0 Kq2.1
  have K2 : Keep h0 T2.heap [] := (Keep.refl h0 []).trans Kq2 all0
  have N2 : Fr n0 L2 := by rw [l2]; exact Fr.app N0 Nq2
  obtain ⟨fs, hr, hrun, hended, hW, hsame⟩ := X2.leave (v := some (.ref b2)) (fun h => by rw [Bd.returns] at h; cases h)
  refine ⟨_, _, pre0 _ ?_, hrun, hended, _, _, rfl, ?_, ⟨_, rfl⟩, hW, hsame.mono (by decide) (by decide)⟩
  · show Steps p.tables e below (s₁.setTop (mkF m 0 #[.val (.ref a1), .val (.int (0 : Int32)), .val (.int (17 : Int32))] [])) _
    refine XS.iloadN X0.here hx rfl (hb hby d44_0) rfl ?_
    refine XS.ifNo X0.here hx rfl (hb hby d44_1) rfl ((if0 _ _).trans (teq (rfl : (0 : Int32) = (0 : Int32))).2) ?_
    refine XS.iloadN X0.here hx rfl (hb hby d44_4) rfl ?_
    refine XS.aloadN X0.here hx rfl (hb hby d44_5) rfl rfl ?_
    show Steps _ _ _ (s₁.setTop (mkF m 6 #[.val (.ref a1), .val (.int (0 : Int32)), .val (.int (17 : Int32))] [(.ref a1), (.int (17 : Int32))])) _
    refine X0.arraylength hx (by rw [e0]; exact Ar1.1) (State.isArrayOf_alike hZ.alike Ar1.2.1) (g := (mkF m 6 #[.val (.ref a1), .val (.int (0 : Int32)), .val (.int (17 : Int32))] [(.ref a1), (.int (17 : Int32))])) rfl rfl (hb hby d44_6) _ ?_
    rw [len_of S1 Nn1]
    show Steps _ _ _ (s₁.setTop (mkF m 7 #[.val (.ref a1), .val (.int (0 : Int32)), .val (.int (17 : Int32))] [(.int (34 : Int32)), (.int (17 : Int32))])) _
    refine XS.icmpNo X0.here hx rfl (hb hby d44_7) rfl (feq (by decide : ¬ ((17 : Int32) = (34 : Int32)))).1 ?_
    refine XS.aloadN X0.here hx rfl (hb hby d44_10) rfl rfl ?_
    refine XS.iloadN X0.here hx rfl (hb hby d44_11) rfl ?_
    refine XS.iloadN X0.here hx rfl (hb hby d44_12) rfl ?_
    show Steps _ _ _ (s₁.setTop (mkF m 13 #[.val (.ref a1), .val (.int (0 : Int32)), .val (.int (17 : Int32))] [(.int (17 : Int32)), (.int (0 : Int32)), (.ref a1)])) _
    refine st2 _ ?_
    show Steps _ _ _ (T2.setTop (mkF m 16 #[.val (.ref a1), .val (.int (0 : Int32)), .val (.int (17 : Int32))] [(.ref b2)])) _
    exact retOut X2 hx Bd.returns rfl (Or.inr (Or.inr (Or.inr (Or.inr ⟨rfl, rfl, rfl⟩)))) (hb hby d44_16) hr
  · show Qown_cr_17 Z a1 k vs h0 n0 _ T2.heap _
    exact ⟨b2, rfl, N2, K2, g2, s2, k2, vs2, hl2, V2⟩
theorem d40_0 : decode c40 0 = .ok (.aload_n 0, 1) := by decide +kernel
theorem d40_1 : decode c40 1 = .ok (.invokespecial 1, 3) := by decide +kernel
theorem d40_4 : decode c40 4 = .ok (.aload_n 1, 1) := by decide +kernel
theorem d40_5 : decode c40 5 = .ok (.invokevirtual 552, 3) := by decide +kernel
theorem pd____B : parseMethodDescriptor "()[B" = some ⟨[], some (.array .byte)⟩ := by decide +kernel
theorem d40_8 : decode c40 8 = .ok (.astore_n 3, 1) := by decide +kernel
theorem d40_9 : decode c40 9 = .ok (.aload_n 1, 1) := by decide +kernel
theorem d40_10 : decode c40 10 = .ok (.invokevirtual 549, 3) := by decide +kernel
theorem d40_13 : decode c40 13 = .ok (.istore 4, 2) := by decide +kernel
theorem d40_15 : decode c40 15 = .ok (.aload_n 1, 1) := by decide +kernel
theorem d40_16 : decode c40 16 = .ok (.invokevirtual 1047, 3) := by decide +kernel
theorem d40_19 : decode c40 19 = .ok (.ifCond .eq 22, 3) := by decide +kernel
theorem d40_22 : decode c40 22 = .ok (.aload_n 0, 1) := by decide +kernel
theorem d40_23 : decode c40 23 = .ok (.iconst 0, 1) := by decide +kernel
theorem d40_24 : decode c40 24 = .ok (.putfield 15, 3) := by decide +kernel
theorem d40_27 : decode c40 27 = .ok (.aload_n 0, 1) := by decide +kernel
theorem d40_28 : decode c40 28 = .ok (.aload_n 3, 1) := by decide +kernel
theorem d40_29 : decode c40 29 = .ok (.iconst 0, 1) := by decide +kernel
theorem d40_30 : decode c40 30 = .ok (.iload 4, 2) := by decide +kernel
theorem d40_32 : decode c40 32 = .ok (.invokestatic 54, 3) := by decide +kernel
theorem d40_35 : decode c40 35 = .ok (.putfield 9, 3) := by decide +kernel
theorem d40_38 : decode c40 38 = .ok (.goto 59, 3) := by decide +kernel
theorem d40_97 : decode c40 97 = .ok (.return_, 1) := by decide +kernel
theorem ef_own_sia_17 (m : MethodId) (x0 : Addr) (x1 : Addr) : entryFrame m #[(.ref x0), (.ref x1), .null] 5 = mkF m 0 #[.val (.ref x0), .val (.ref x1), .val .null, .unset, .unset] [] := by first | (simp [entryFrame, mkF, argsToLocals, Value.category]; done) | rfl
def Qown_sia_17 (Z : State) (a1 : Addr) (a2 : Addr) (nb2 : Nat) (cs : Int32) (nb : Nat) (h0 : Heap) (n0 : Nat) (v : Option Value) (h : Heap) (L : List Loc) : Prop := v = none ∧ Fr n0 L ∧ Keep h0 h [a1] ∧ own_str Z h a1 (17 : Int32)
theorem own_sia_17 (l : Launch) (Z : State) (a0 : Array Value) (hw : ∀ d ∈ tables_1, d.before a0 Z = true) (ws : List Jvm.Cond) (a1 : Addr) (a2 : Addr) (nb2 : Nat) (cs : Int32) (nb : Nat) (h0 : Heap) (n0 : Nat) (Z0 : n0 ≤ h0.size) (F1 : Fld Z h0 a1 "java/lang/String" "value" "[B" .null) (F2 : Fld Z h0 a1 "java/lang/String" "coder" "B" (.int (0 : Int32))) (E1 : Exa Z h0 a1 "java/lang/String") (g_a1 : n0 ≤ a1) (B1 : own_sb Z h0 nb2 a2 (34 : Int32) (17 : Int32)) (SC : own_S Z h0 nb "java/lang/String" "COMPACT_STRINGS" "Z" (.int cs)) (hcs : ¬ (cs = (0 : Int32))) :
    MetFree l mn29 (head1 (Jvm.Cond.code mn29 jdk_42_method_150_code 5 none :: ws) (⟨3, 1, 17, 49⟩ : Room)) (fun a U => a = #[(.ref a1), (.ref a2), .null] ∧ Z.Warmed39 U.vm ∧ U.heap = h0) (fun _ _ _ _ _ => True) (fun _ U o U' => ∃ v L, o = .returned v ∧ Qown_sia_17 Z a1 a2 nb2 cs nb h0 n0 v U'.heap L ∧ FrameEnd U o U' L (⟨3, 1, 17, 49⟩ : Room).cells (⟨3, 1, 17, 49⟩ : Room).slots) := by
  refine MetFree.of_bodySF (plainFor_of_name pn_java_lang_String) hisR ?_
  intro p e s m args below meth c s₁ Bd hml0 hP hK
  obtain ⟨rfl, hZ, hh⟩ := hP
  have hx := Bd.exec
  have hby := Bd.bytes
  have hml : c.maxLocals = 5 := hml0
  have hown : s.vm.findClass "java/lang/String" = some m.cls := findClass_of_methodNamed Bd.named
  have hnm := (name_of_methodNamed Bd.named Bd.method).1
  have X0 : Stand p l e (⟨3, 1, 17, 49⟩ : Room) s m #[(.ref a1), (.ref a2), .null] below meth c s₁ [] 0 0 := Stand.of_body Bd
  have e0 : s₁.heap = h0 := by rw [← hh, Bd.state]; rfl
  have N0 := Fr.nil n0
  have pre0 : ∀ t, Steps p.tables e below (s₁.setTop (mkF m 0 #[.val (.ref a1), .val (.ref a2), .val .null, .unset, .unset] [])) t → Steps p.tables e below (s₁.setTop (entryFrame m #[(.ref a1), (.ref a2), .null] 5)) t := fun t k => castTop (ef_own_sia_17 m (a1) (a2)) k
  obtain ⟨b, k, vs, Eb1, G1, G2, G3, V1, hlb, _, _, _, Eb⟩ := B1
  have nb_ : b ≠ a1 := Ne.symm (Exa.neArv E1 V1 (wJ hw 10 rfl))
  obtain ⟨T1, X1, e1, st1⟩ := initO X0 hx hZ hown (wJ hw 19 rfl) (wJ hw 20 rfl) (wJ hw 21 rfl) e0 (g := (mkF m 1 #[.val (.ref a1), .val (.ref a2), .val .null, .unset, .unset] [(.ref a1)])) rfl (by rw [hml]; rfl) rfl (hb hby d40_1) (by decide) (W := 0) (by show 2 * 0 + _ ≤ _; exact Nat.le_of_eq rfl) (by decide)
  obtain ⟨cq2, kq2, q2a, q2b, q2c⟩ := isOf hZ e1 Eb1
  obtain ⟨_, _, ⟨T2, L2, k2, n2⟩, -, X2, ⟨Lc2, hQ2, l2, y2, z2⟩, st2⟩ := X1.virtualBack hx (y := mn18) (z := mn18) hown (mvT hZ (wJ hw 266 rfl)) (mvT hZ (wJ hw 267 rfl)) (notFace_of_selects (args := #[]) (mvT hZ (wJ hw 269 rfl))) (mvT hZ (wJ hw 269 rfl)) (mvT hZ (wJ hw 268 rfl)) (by decide) (backOf (W := 0) (own_getV l Z a0 hw [] a2 b h0 n0 Z0 G1) hZ (wJ hw 270 rfl) (wJ hw 87 rfl) (by decide) (by decide)) q2a q2c (g := (mkF m 5 #[.val (.ref a1), .val (.ref a2), .val .null, .unset, .unset] [(.ref a2)])) rfl (by rw [hml]; rfl) (Steps.refl _) (argsL := []) (rest := []) (lenOf pd____B rfl) rfl (by show 2 * 0 + _ ≤ _; exact Nat.le_of_eq rfl) (hb hby d40_5) (fun _ _ => ⟨rfl, e1, (by decide : 0 + 0 ≤ _), (by decide : 0 + 0 ≤ _)⟩)
  dsimp only [Pt.U, Pt.locs, Pt.cells, Pt.slots] at X2 l2 y2 z2 st2 hQ2
  replace X2 := X2.more (Nat.le_of_eq (show k2 = 0 from y2)) (Nat.le_of_eq (show n2 = 0 from z2))
  obtain ⟨rfl, Nq2, e2⟩ := hQ2
  have N2 : Fr n0 L2 := by rw [l2]; exact Fr.app N0 Nq2
  obtain ⟨cq3, kq3, q3a, q3b, q3c⟩ := isOf hZ e2 Eb1
  obtain ⟨_, _, ⟨T3, L3, k3, n3⟩, -, X3, ⟨Lc3, hQ3, l3, y3, z3⟩, st3⟩ := X2.virtualBack hx (y := mn21) (z := mn40) hown (mvT hZ (wJ hw 271 rfl)) (mvT hZ (wJ hw 272 rfl)) (own_nf (args := #[]) (mvT hZ (wJ hw 219 rfl)) rfl) (mvT hZ (wJ hw 274 rfl)) (mvT hZ (wJ hw 275 rfl)) (by decide) (backOf (W := 0) (own_lenB l Z a0 hw [] a2 (17 : Int32) h0 n0 Z0 G3 Eb1) hZ (wJ hw 276 rfl) (wJ hw 79 rfl) (by decide) (by decide)) q3a q3c (g := (mkF m 10 #[.val (.ref a1), .val (.ref a2), .val .null, .val (.ref b), .unset] [(.ref a2)])) rfl (by rw [hml]; rfl) (Steps.refl _) (argsL := []) (rest := []) (lenOf pd___I rfl) rfl (by show 2 * 0 + _ ≤ _; exact Nat.le_of_eq rfl) (hb hby d40_10) (fun _ _ => ⟨rfl, e2, (by decide : 0 + 0 ≤ _), (by decide : 0 + 0 ≤ _)⟩)
  dsimp only [Pt.U, Pt.locs, Pt.cells, Pt.slots] at X3 l3 y3 z3 st3 hQ3
  replace X3 := X3.more (Nat.le_of_eq (show k3 = 0 from y3)) (Nat.le_of_eq (show n3 = 0 from z3))
  obtain ⟨rfl, Nq3, e3⟩ := hQ3
  have N3 : Fr n0 L3 := by rw [l3]; exact Fr.app N2 Nq3
  obtain ⟨cq4, kq4, q4a, q4b, q4c⟩ := isOf hZ e3 Eb1
  obtain ⟨_, _, ⟨T4, L4, k4, n4⟩, -, X4, ⟨Lc4, hQ4, l4, y4, z4⟩, st4⟩ := X3.virtualBack hx (y := mn20) (z := mn20) hown (mvT hZ (wJ hw 279 rfl)) (mvT hZ (wJ hw 217 rfl)) (notFace_of_selects (args := #[]) (mvT hZ (wJ hw 219 rfl))) (mvT hZ (wJ hw 219 rfl)) (mvT hZ (wJ hw 218 rfl)) (by decide) (backOf (W := 0) (own_isL l Z a0 hw [] a2 cs nb h0 n0 Z0 G2 SC hcs) hZ (wJ hw 220 rfl) (wJ hw 87 rfl) (by decide) (by decide)) q4a q4c (g := (mkF m 16 #[.val (.ref a1), .val (.ref a2), .val .null, .val (.ref b), .val (.int (17 : Int32))] [(.ref a2)])) rfl (by rw [hml]; rfl) (Steps.refl _) (argsL := []) (rest := []) (lenOf pd___Z rfl) rfl (by show 2 * 0 + _ ≤ _; exact Nat.le_of_eq rfl) (hb hby d40_16) (fun _ _ => ⟨rfl, e3, (by decide : 0 + 0 ≤ _), (by decide : 0 + 0 ≤ _)⟩)
  dsimp only [Pt.U, Pt.locs, Pt.cells, Pt.slots] at X4 l4 y4 z4 st4 hQ4
  replace X4 := X4.more (Nat.le_of_eq (show k4 = 0 from y4)) (Nat.le_of_eq (show n4 = 0 from z4))
  obtain ⟨rfl, Nq4, e4⟩ := hQ4
  have N4 : Fr n0 L4 := by rw [l4]; exact Fr.app N3 Nq4
  obtain ⟨T5, h5, X5, e5, W5, st5⟩ := putFN X4 hx hZ hown (wJ hw 24 rfl) Via.refl e4 F2 E1 (Or.inr ⟨(wJ hw 25 rfl), rfl, hnm⟩) (wJ hw 10 rfl) (ty := .byte) (v' := (.int (0 : Int32))) (by decide) rfl (rfl) (g := (mkF m 24 #[.val (.ref a1), .val (.ref a2), .val .null, .val (.ref b), .val (.int (17 : Int32))] [(.int (0 : Int32)), (.ref a1)])) rfl rfl (hb hby d40_24)
  have Fw5 := F2.same W5
  have K5 : Keep h0 h5 [a1] := (Keep.refl h0 [a1]).wr W5 (Or.inl (wI 0 rfl))
  have N5 := Fr.snoc X5 N4 g_a1
  have Z5 : n0 ≤ h5.size := Nat.le_trans Z0 (Keep.of_wr W5).1
  have fc6 := (V1.other W5 nb_)
  obtain ⟨_, _, ⟨T7, L7, k7, n7⟩, -, X7, ⟨Lc7, hQ7, l7, y7, z7⟩, st7⟩ := Jvm.LawKit.callS X5 hx (y := mn47) hown (mvT hZ (wJ hw 280 rfl)) (mvT hZ (wJ hw 281 rfl)) (mvT hZ (wJ hw 248 rfl)) (mvT hZ (wJ hw 282 rfl)) (by decide) (backOf (W := 1) (own_cr_17 l Z a0 hw [] b k vs h5 n0 Z5 fc6) hZ (wJ hw 282 rfl) (wJ hw 248 rfl) (by decide) (by decide)) (g := (mkF m 32 #[.val (.ref a1), .val (.ref a2), .val .null, .val (.ref b), .val (.int (17 : Int32))] [(.int (17 : Int32)), (.int (0 : Int32)), (.ref b), (.ref a1)])) rfl (by rw [hml]; rfl) (argsL := [(.ref b), (.int (0 : Int32)), (.int (17 : Int32))]) (rest := [(.ref a1)]) (lenOf pd___BII__B rfl) rfl (by show 2 * 0 + _ ≤ _; exact Nat.le_of_eq rfl) (hb hby d40_32) (fun _ _ => ⟨rfl, e5, (by decide : 0 + 1 ≤ _), (by decide : 0 + 17 ≤ _)⟩)
  dsimp only [Pt.U, Pt.locs, Pt.cells, Pt.slots] at X7 l7 y7 z7 st7 hQ7
  replace X7 := X7.more (Nat.le_of_eq (show k7 = 1 from y7)) (Nat.le_of_eq (show n7 = 17 from z7))
  obtain ⟨b2, rfl, Nq7, Kq7, g_b2, s2, k2, vs2, hl2, V2⟩ := hQ7
  have Z7 : n0 ≤ T7.heap.size := Nat.le_trans Z5 Kq7.1
  have K7 : Keep h0 T7.heap [a1] := K5.trans Kq7 all0
  have N7 : Fr n0 L7 := by rw [l7]; exact Fr.app N5 Nq7
  have fc8 := (E1.wr W5)
  have ne2 : a1 ≠ b2 := Nat.ne_of_lt (Nat.lt_of_lt_of_le fc8.lt s2)
  have fc10 := ((F1.other W5 (Or.inr (slot_ne (Or.inr (wJ hw 23 rfl)) (Or.inr (wJ hw 25 rfl)) (by decide) (t := (.array .byte)) (t' := .byte) (by decide) (by decide)))).keep Kq7 nin0)
  have fc11 := (fc8.keep Kq7)
  obtain ⟨T9, h9, X9, e9, W9, st9⟩ := putF X7 hx hZ hown (host := "") (Or.inl (wJ hw 22 rfl)) Via.refl rfl fc10 fc11 (Or.inr ⟨(wJ hw 23 rfl), rfl, hnm⟩) (wJ hw 10 rfl) (ty := (.array .byte)) (by decide) rfl rfl (g := (mkF m 35 #[.val (.ref a1), .val (.ref a2), .val .null, .val (.ref b), .val (.int (17 : Int32))] [(.ref b2), (.ref a1)])) rfl rfl (hb hby d40_35)
  have Fw9 := fc10.same W9
  have K9 : Keep h0 h9 [a1] := K7.wr W9 (Or.inl (wI 0 rfl))
  have N9 := Fr.snoc X9 N7 g_a1
  have Z9 : n0 ≤ h9.size := Nat.le_trans Z7 (Keep.of_wr W9).1
  have fc12 := (fc11.wr W9)
  have fc13 := ((Fw5.keep Kq7 nin0).other W9 (Or.inr (slot_ne (Or.inr (wJ hw 25 rfl)) (Or.inr (wJ hw 23 rfl)) (by decide) (t := .byte) (t' := (.array .byte)) (by decide) (by decide))))
  have fc14 := (V2.other W9 (Ne.symm ne2))
  obtain ⟨fs, hr, hrun, hended, hW, hsame⟩ := X9.leave (v := none) (fun _ => rfl)
  refine ⟨_, _, pre0 _ ?_, hrun, hended, _, _, rfl, ?_, ⟨_, rfl⟩, hW, hsame.mono (by decide) (by decide)⟩
  · show Steps p.tables e below (s₁.setTop (mkF m 0 #[.val (.ref a1), .val (.ref a2), .val .null, .unset, .unset] [])) _
    refine XS.aloadN X0.here hx rfl (hb hby d40_0) rfl rfl ?_
    refine st1 _ ?_
    refine XS.aloadN X1.here hx rfl (hb hby d40_4) rfl rfl ?_
    refine st2.trans ?_
    show Steps _ _ _ (T2.setTop (mkF m 8 #[.val (.ref a1), .val (.ref a2), .val .null, .unset, .unset] [(.ref b)])) _
    refine XS.astoreN X2.here hx rfl (hb hby d40_8) rfl rfl (l' := #[.val (.ref a1), .val (.ref a2), .val .null, .val (.ref b), .unset]) rfl ?_
    refine XS.aloadN X2.here hx rfl (hb hby d40_9) rfl rfl ?_
    refine st3.trans ?_
    refine XS.istore X3.here hx rfl (hb hby d40_13) rfl (l' := #[.val (.ref a1), .val (.ref a2), .val .null, .val (.ref b), .val (.int (17 : Int32))]) rfl ?_
    show Steps _ _ _ (T3.setTop (mkF m 15 #[.val (.ref a1), .val (.ref a2), .val .null, .val (.ref b), .val (.int (17 : Int32))] [])) _
    refine XS.aloadN X3.here hx rfl (hb hby d40_15) rfl rfl ?_
    refine st4.trans ?_
    refine XS.ifNo X4.here hx rfl (hb hby d40_19) rfl ((if0 _ _).trans (feq (by decide : ¬ ((1 : Int32) = (0 : Int32)))).1) ?_
    refine XS.aloadN X4.here hx rfl (hb hby d40_22) rfl rfl ?_
    show Steps _ _ _ (T4.setTop (mkF m 23 #[.val (.ref a1), .val (.ref a2), .val .null, .val (.ref b), .val (.int (17 : Int32))] [(.ref a1)])) _
    refine XS.iconst X4.here hx rfl (hb hby d40_23) ?_
    refine st5 _ ?_
    refine XS.aloadN X5.here hx rfl (hb hby d40_27) rfl rfl ?_
    refine XS.aloadN X5.here hx rfl (hb hby d40_28) rfl rfl ?_
    show Steps _ _ _ (T5.setTop (mkF m 29 #[.val (.ref a1), .val (.ref a2), .val .null, .val (.ref b), .val (.int (17 : Int32))] [(.ref b), (.ref a1)])) _
    refine XS.iconst X5.here hx rfl (hb hby d40_29) ?_
    refine XS.iload X5.here hx rfl (hb hby d40_30) rfl ?_
    refine st7 _ ?_
    refine st9 _ ?_
    show Steps _ _ _ (T9.setTop (mkF m 38 #[.val (.ref a1), .val (.ref a2), .val .null, .val (.ref b), .val (.int (17 : Int32))] [])) _
    refine XS.goto X9.here hx rfl (pc0 := 38) (pc' := 97) rfl (hb hby d40_38) (by decide) (by decide) ?_
    show Steps _ _ _ (T9.setTop (mkF m 97 #[.val (.ref a1), .val (.ref a2), .val .null, .val (.ref b), .val (.int (17 : Int32))] [])) _
    exact X9.returnOut hx Bd.returns (hb hby d40_97) hr
  · show Qown_sia_17 Z a1 a2 nb2 cs nb h0 n0 _ T9.heap _
    rw [e9]
    exact ⟨rfl, N9, K9, b2, k2, vs2, fc12, Fw9, fc13, fc14, hl2⟩
theorem d39_0 : decode c39 0 = .ok (.aload_n 0, 1) := by decide +kernel
theorem d39_1 : decode c39 1 = .ok (.aload_n 1, 1) := by decide +kernel
theorem d39_2 : decode c39 2 = .ok (.aconst_null, 1) := by decide +kernel
theorem d39_3 : decode c39 3 = .ok (.invokespecial 489, 3) := by decide +kernel
theorem pd__Ljava_lang_AbstractStringBuilder_Ljava_lang_Void__V : parseMethodDescriptor "(Ljava/lang/AbstractStringBuilder;Ljava/lang/Void;)V" = some ⟨[(.object "java/lang/AbstractStringBuilder"), (.object "java/lang/Void")], none⟩ := by decide +kernel
theorem d39_6 : decode c39 6 = .ok (.return_, 1) := by decide +kernel
theorem ef_own_sis_17 (m : MethodId) (x0 : Addr) (x1 : Addr) : entryFrame m #[(.ref x0), (.ref x1)] 2 = mkF m 0 #[.val (.ref x0), .val (.ref x1)] [] := by first | (simp [entryFrame, mkF, argsToLocals, Value.category]; done) | rfl
def Qown_sis_17 (Z : State) (a1 : Addr) (a2 : Addr) (nb2 : Nat) (cs : Int32) (nb : Nat) (h0 : Heap) (n0 : Nat) (v : Option Value) (h : Heap) (L : List Loc) : Prop := v = none ∧ Fr n0 L ∧ Keep h0 h [a1] ∧ own_str Z h a1 (17 : Int32)
theorem own_sis_17 (l : Launch) (Z : State) (a0 : Array Value) (hw : ∀ d ∈ tables_1, d.before a0 Z = true) (ws : List Jvm.Cond) (a1 : Addr) (a2 : Addr) (nb2 : Nat) (cs : Int32) (nb : Nat) (h0 : Heap) (n0 : Nat) (Z0 : n0 ≤ h0.size) (F1 : Fld Z h0 a1 "java/lang/String" "value" "[B" .null) (F2 : Fld Z h0 a1 "java/lang/String" "coder" "B" (.int (0 : Int32))) (E1 : Exa Z h0 a1 "java/lang/String") (g_a1 : n0 ≤ a1) (B1 : own_sb Z h0 nb2 a2 (34 : Int32) (17 : Int32)) (SC : own_S Z h0 nb "java/lang/String" "COMPACT_STRINGS" "Z" (.int cs)) (hcs : ¬ (cs = (0 : Int32))) :
    MetFree l mn30 (head1 (Jvm.Cond.code mn30 jdk_42_method_53_code 2 none :: ws) (⟨4, 1, 17, 65⟩ : Room)) (fun a U => a = #[(.ref a1), (.ref a2)] ∧ Z.Warmed39 U.vm ∧ U.heap = h0) (fun _ _ _ _ _ => True) (fun _ U o U' => ∃ v L, o = .returned v ∧ Qown_sis_17 Z a1 a2 nb2 cs nb h0 n0 v U'.heap L ∧ FrameEnd U o U' L (⟨4, 1, 17, 65⟩ : Room).cells (⟨4, 1, 17, 65⟩ : Room).slots) := by
  refine MetFree.of_bodySF (plainFor_of_name pn_java_lang_String) hisR ?_
  intro p e s m args below meth c s₁ Bd hml0 hP hK
  obtain ⟨rfl, hZ, hh⟩ := hP
  have hx := Bd.exec
  have hby := Bd.bytes
  have hml : c.maxLocals = 2 := hml0
  have hown : s.vm.findClass "java/lang/String" = some m.cls := findClass_of_methodNamed Bd.named
  have hnm := (name_of_methodNamed Bd.named Bd.method).1
  have X0 : Stand p l e (⟨4, 1, 17, 65⟩ : Room) s m #[(.ref a1), (.ref a2)] below meth c s₁ [] 0 0 := Stand.of_body Bd
  have e0 : s₁.heap = h0 := by rw [← hh, Bd.state]; rfl
  have N0 := Fr.nil n0
  have pre0 : ∀ t, Steps p.tables e below (s₁.setTop (mkF m 0 #[.val (.ref a1), .val (.ref a2)] [])) t → Steps p.tables e below (s₁.setTop (entryFrame m #[(.ref a1), (.ref a2)] 2)) t := fun t k => castTop (ef_own_sis_17 m (a1) (a2)) k
  obtain ⟨_, _, ⟨T1, L1, k1, n1⟩, -, X1, ⟨Lc1, hQ1, l1, y1, z1⟩, st1⟩ := X0.specialBack hx (y := mn29) rfl hown (mvT hZ (wJ hw 263 rfl)) (mvT hZ (wJ hw 264 rfl)) (mvT hZ (wJ hw 265 rfl)) (by decide) (backOf (W := 0) (own_sia_17 l Z a0 hw [] a1 a2 nb2 cs nb h0 n0 Z0 F1 F2 E1 g_a1 B1 SC hcs) hZ (wJ hw 265 rfl) (wJ hw 2 rfl) (by decide) (by decide)) (g := (mkF m 3 #[.val (.ref a1), .val (.ref a2)] [.null, (.ref a2), (.ref a1)])) rfl (by rw [hml]; rfl) (Steps.refl _) (a := a1) (argsL := [(.ref a2), .null]) (rest := []) (lenOf pd__Ljava_lang_AbstractStringBuilder_Ljava_lang_Void__V rfl) rfl (by show 2 * 0 + _ ≤ _; exact Nat.le_of_eq rfl) (hb hby d39_3) (fun _ _ => ⟨rfl, e0, (by decide : 0 + 1 ≤ _), (by decide : 0 + 17 ≤ _)⟩)
  dsimp only [Pt.U, Pt.locs, Pt.cells, Pt.slots] at X1 l1 y1 z1 st1 hQ1
  replace X1 := X1.more (Nat.le_of_eq (show k1 = 1 from y1)) (Nat.le_of_eq (show n1 = 17 from z1))
  obtain ⟨rfl, Nq1, Kq1, S2⟩ := hQ1
  have Z1 : n0 ≤ T1.heap.size := Nat.le_trans Z0 Kq1.1
  have K1 : Keep h0 T1.heap [a1] := (Keep.refl h0 [a1]).trans Kq1 (allS (Or.inl (wI 0 rfl)) all0)
  have N1 : Fr n0 L1 := by rw [l1]; exact Fr.app N0 Nq1
  obtain ⟨fs, hr, hrun, hended, hW, hsame⟩ := X1.leave (v := none) (fun _ => rfl)
  refine ⟨_, _, pre0 _ ?_, hrun, hended, _, _, rfl, ?_, ⟨_, rfl⟩, hW, hsame.mono (by decide) (by decide)⟩
  · show Steps p.tables e below (s₁.setTop (mkF m 0 #[.val (.ref a1), .val (.ref a2)] [])) _
    refine XS.aloadN X0.here hx rfl (hb hby d39_0) rfl rfl ?_
    refine XS.aloadN X0.here hx rfl (hb hby d39_1) rfl rfl ?_
    refine XS.aconstNull X0.here hx rfl (hb hby d39_2) ?_
    refine st1.trans ?_
    show Steps _ _ _ (T1.setTop (mkF m 6 #[.val (.ref a1), .val (.ref a2)] [])) _
    exact X1.returnOut hx Bd.returns (hb hby d39_6) hr
  · show Qown_sis_17 Z a1 a2 nb2 cs nb h0 n0 _ T1.heap _
    exact ⟨rfl, N1, K1, S2⟩
theorem d38_0 : decode c38 0 = .ok (.new 18, 3) := by decide +kernel
theorem d38_3 : decode c38 3 = .ok (.dup, 1) := by decide +kernel
theorem d38_4 : decode c38 4 = .ok (.aload_n 0, 1) := by decide +kernel
theorem d38_5 : decode c38 5 = .ok (.invokespecial 137, 3) := by decide +kernel
theorem pd__Ljava_lang_StringBuilder__V : parseMethodDescriptor "(Ljava/lang/StringBuilder;)V" = some ⟨[(.object "java/lang/StringBuilder")], none⟩ := by decide +kernel
theorem d38_8 : decode c38 8 = .ok (.areturn, 1) := by decide +kernel
theorem ef_own_tos_17 (m : MethodId) (x0 : Addr) : entryFrame m #[(.ref x0)] 1 = mkF m 0 #[.val (.ref x0)] [] := by first | (simp [entryFrame, mkF, argsToLocals, Value.category]; done) | rfl
def Qown_tos_17 (Z : State) (a1 : Addr) (nb2 : Nat) (cs : Int32) (nb : Nat) (h0 : Heap) (n0 : Nat) (v : Option Value) (h : Heap) (L : List Loc) : Prop := (∃ t : Addr, v = some (.ref t) ∧ Fr n0 L ∧ Keep h0 h [] ∧ h0.size ≤ t ∧ own_str Z h t (17 : Int32))
theorem own_tos_17 (l : Launch) (Z : State) (a0 : Array Value) (hw : ∀ d ∈ tables_1, d.before a0 Z = true) (ws : List Jvm.Cond) (a1 : Addr) (nb2 : Nat) (cs : Int32) (nb : Nat) (h0 : Heap) (n0 : Nat) (Z0 : n0 ≤ h0.size) (B1 : own_sb Z h0 nb2 a1 (34 : Int32) (17 : Int32)) (SC : own_S Z h0 nb "java/lang/String" "COMPACT_STRINGS" "Z" (.int cs)) (hcs : ¬ (cs = (0 : Int32))) :
    MetFree l mn41 (head1 (Jvm.Cond.code mn41 jdk_67_method_42_code 1 (some (.object "java/lang/String")) :: ws) (⟨5, 2, 21, 79⟩ : Room)) (fun a U => a = #[(.ref a1)] ∧ Z.Warmed39 U.vm ∧ U.heap = h0) (fun _ _ _ _ _ => True) (fun _ U o U' => ∃ v L, o = .returned v ∧ Qown_tos_17 Z a1 nb2 cs nb h0 n0 v U'.heap L ∧ FrameEnd U o U' L (⟨5, 2, 21, 79⟩ : Room).cells (⟨5, 2, 21, 79⟩ : Room).slots) := by
  refine MetFree.of_bodySF (plainFor_of_name pn_java_lang_StringBuilder) hisR ?_
  intro p e s m args below meth c s₁ Bd hml0 hP hK
  obtain ⟨rfl, hZ, hh⟩ := hP
  have hx := Bd.exec
  have hby := Bd.bytes
  have hml : c.maxLocals = 1 := hml0
  have hown : s.vm.findClass "java/lang/StringBuilder" = some m.cls := findClass_of_methodNamed Bd.named
  have hnm := (name_of_methodNamed Bd.named Bd.method).1
  have X0 : Stand p l e (⟨5, 2, 21, 79⟩ : Room) s m #[(.ref a1)] below meth c s₁ [] 0 0 := Stand.of_body Bd
  have e0 : s₁.heap = h0 := by rw [← hh, Bd.state]; rfl
  have N0 := Fr.nil n0
  have pre0 : ∀ t, Steps p.tables e below (s₁.setTop (mkF m 0 #[.val (.ref a1)] [])) t → Steps p.tables e below (s₁.setTop (entryFrame m #[(.ref a1)] 1)) t := fun t k => castTop (ef_own_tos_17 m (a1)) k
  obtain ⟨T1, h1, X1, e1, E1, A1, D1, -, st1⟩ := newO X0 hx hZ hown (wJ hw 259 rfl) (wJ hw 10 rfl) (wJ hw 2 rfl) e0 (g := (mkF m 0 #[.val (.ref a1)] [])) rfl (hb hby d38_0) (by decide) (by decide)
  obtain ⟨b1, g1⟩ : ∃ z, z = h0.size := ⟨_, rfl⟩
  rw [← g1] at A1 D1 st1
  have g_b1 : n0 ≤ b1 := Nat.le_trans Z0 (Nat.le_of_eq g1.symm)
  have sz_b1 : h0.size ≤ b1 := Nat.le_trans (Keep.refl h0 []).1 (Nat.le_of_eq g1.symm)
  have Z1 : n0 ≤ h1.size := Nat.le_trans Z0 E1.1
  have K1 : Keep h0 h1 [] := (Keep.refl h0 []).ext E1
  have F_value_b1 : Fld Z h1 b1 "java/lang/String" "value" "[B" .null := D1 (Or.inr (wJ hw 23 rfl)) (ty := (.array .byte)) (by decide)
  have F_coder_b1 : Fld Z h1 b1 "java/lang/String" "coder" "B" (.int (0 : Int32)) := D1 (Or.inr (wJ hw 25 rfl)) (ty := .byte) (by decide)
  obtain ⟨_, _, ⟨T2, L2, k2, n2⟩, -, X2, ⟨Lc2, hQ2, l2, y2, z2⟩, st2⟩ := X1.specialBack hx (y := mn30) rfl hown (mvT hZ (wJ hw 260 rfl)) (mvT hZ (wJ hw 261 rfl)) (mvT hZ (wJ hw 262 rfl)) (by decide) (backOf (W := 1) (own_sis_17 l Z a0 hw [] b1 a1 nb2 cs nb h1 n0 Z1 F_value_b1 F_coder_b1 A1 g_b1 (B1.keep ((Keep.refl h0 []).ext E1)) (own_S.W SC ⟨[], ((Keep.refl h0 []).ext E1), all0⟩) hcs) hZ (wJ hw 262 rfl) (wJ hw 2 rfl) (by decide) (by decide)) (g := (mkF m 5 #[.val (.ref a1)] [(.ref a1), (.ref b1), (.ref b1)])) rfl (by rw [hml]; rfl) (Steps.refl _) (a := b1) (argsL := [(.ref a1)]) (rest := [(.ref b1)]) (lenOf pd__Ljava_lang_StringBuilder__V rfl) rfl (by show 2 * 0 + _ ≤ _; exact Nat.le_of_eq rfl) (hb hby d38_5) (fun _ _ => ⟨rfl, e1, (by decide : 1 + 1 ≤ _), (by decide : 4 + 17 ≤ _)⟩)
  dsimp only [Pt.U, Pt.locs, Pt.cells, Pt.slots] at X2 l2 y2 z2 st2 hQ2
  replace X2 := X2.more (Nat.le_of_eq (show k2 = 2 from y2)) (Nat.le_of_eq (show n2 = 21 from z2))
  obtain ⟨rfl, Nq2, Kq2, S2⟩ := hQ2
  have Z2 : n0 ≤ T2.heap.size := Nat.le_trans Z1 Kq2.1
  have K2 : Keep h0 T2.heap [] := K1.trans Kq2 (allS (Or.inr sz_b1) all0)
  have N2 : Fr n0 L2 := by rw [l2]; exact Fr.app N0 Nq2
  obtain ⟨fs, hr, hrun, hended, hW, hsame⟩ := X2.leave (v := some (.ref b1)) (fun h => by rw [Bd.returns] at h; cases h)
  refine ⟨_, _, pre0 _ ?_, hrun, hended, _, _, rfl, ?_, ⟨_, rfl⟩, hW, hsame.mono (by decide) (by decide)⟩
  · show Steps p.tables e below (s₁.setTop (mkF m 0 #[.val (.ref a1)] [])) _
    refine st1 _ ?_
    refine XS.dup X1.here hx rfl (hb hby d38_3) rfl rfl ?_
    refine XS.aloadN X1.here hx rfl (hb hby d38_4) rfl rfl ?_
    refine st2.trans ?_
    show Steps _ _ _ (T2.setTop (mkF m 8 #[.val (.ref a1)] [(.ref b1)])) _
    exact retOut X2 hx Bd.returns rfl (Or.inr (Or.inr (Or.inr (Or.inr ⟨rfl, rfl, rfl⟩)))) (hb hby d38_8) hr
  · show Qown_tos_17 Z a1 nb2 cs nb h0 n0 _ T2.heap _
    exact ⟨b1, rfl, N2, K2, sz_b1, S2⟩
theorem d44_17 : decode c44 17 = .ok (.aload_n 0, 1) := by decide +kernel
theorem d44_18 : decode c44 18 = .ok (.invokevirtual 310, 3) := by decide +kernel
theorem d44_21 : decode c44 21 = .ok (.checkcast 311, 3) := by decide +kernel
theorem d44_24 : decode c44 24 = .ok (.areturn, 1) := by decide +kernel
theorem ef_own_cr_107 (m : MethodId) (x0 : Addr) (x1 : Int32) (x2 : Int32) : entryFrame m #[(.ref x0), (.int x1), (.int x2)] 3 = mkF m 0 #[.val (.ref x0), .val (.int x1), .val (.int x2)] [] := by first | (simp [entryFrame, mkF, argsToLocals, Value.category]; done) | rfl
def Qown_cr_107 (Z : State) (a1 : Addr) (k : ClassId) (vs : List Value) (h0 : Heap) (n0 : Nat) (v : Option Value) (h : Heap) (L : List Loc) : Prop := (∃ b2 : Addr, v = some (.ref b2) ∧ Fr n0 L ∧ Keep h0 h [] ∧ n0 ≤ b2 ∧ h0.size ≤ b2 ∧ ∃ (k2 : ClassId) (vs2 : List Value), vs2.length = (107 : Int32).toNatClampNeg ∧ Arv Z h b2 k2 .byte (107 : Int32) vs2 (.int (0 : Int32)))
theorem own_cr_107 (l : Launch) (Z : State) (a0 : Array Value) (hw : ∀ d ∈ tables_1, d.before a0 Z = true) (ws : List Jvm.Cond) (a1 : Addr) (k : ClassId) (vs : List Value) (h0 : Heap) (n0 : Nat) (Z0 : n0 ≤ h0.size) (V1 : Arv Z h0 a1 k .byte (107 : Int32) vs (.int (0 : Int32))) (hl : vs.length = (107 : Int32).toNatClampNeg) (Eb : Exa Z h0 a1 "[B") :
    MetFree l mn47 (head1 (Jvm.Cond.code mn47 jdk_65_method_132_code 3 (some (.array .byte)) :: ws) (⟨1, 1, 107, 14⟩ : Room)) (fun a U => a = #[(.ref a1), (.int (0 : Int32)), (.int (107 : Int32))] ∧ Z.Warmed39 U.vm ∧ U.heap = h0) (fun _ _ _ _ _ => True) (fun _ U o U' => ∃ v L, o = .returned v ∧ Qown_cr_107 Z a1 k vs h0 n0 v U'.heap L ∧ FrameEnd U o U' L (⟨1, 1, 107, 14⟩ : Room).cells (⟨1, 1, 107, 14⟩ : Room).slots) := by
  refine MetFree.of_bodySF (plainFor_of_name pn_java_util_Arrays) hisR ?_
  intro p e s m args below meth c s₁ Bd hml0 hP hK
  obtain ⟨rfl, hZ, hh⟩ := hP
  have hx := Bd.exec
  have hby := Bd.bytes
  have hml : c.maxLocals = 3 := hml0
  have hown : s.vm.findClass "java/util/Arrays" = some m.cls := findClass_of_methodNamed Bd.named
  have hnm := (name_of_methodNamed Bd.named Bd.method).1
  have X0 : Stand p l e (⟨1, 1, 107, 14⟩ : Room) s m #[(.ref a1), (.int (0 : Int32)), (.int (107 : Int32))] below meth c s₁ [] 0 0 := Stand.of_body Bd
  have e0 : s₁.heap = h0 := by rw [← hh, Bd.state]; rfl
  have N0 := Fr.nil n0
  have pre0 : ∀ t, Steps p.tables e below (s₁.setTop (mkF m 0 #[.val (.ref a1), .val (.int (0 : Int32)), .val (.int (107 : Int32))] [])) t → Steps p.tables e below (s₁.setTop (entryFrame m #[(.ref a1), (.int (0 : Int32)), (.int (107 : Int32))] 3)) t := fun t k => castTop (ef_own_cr_107 m (a1) ((0 : Int32)) ((107 : Int32))) k
  obtain ⟨cl1, Ar1, qc1, S1, Nn1, H1, G1⟩ := id V1
  obtain ⟨T2, h2, X2, e2, E2, Vh2, Ea2, st2⟩ := cloneH X0 hx hZ hown (wJ hw 291 rfl) (wJ hw 292 rfl) (wJ hw 296 rfl) (wJ hw 294 rfl) (wJ hw 295 rfl) (wJ hw 297 rfl) e0 V1.arh Eb (g := (mkF m 18 #[.val (.ref a1), .val (.int (0 : Int32)), .val (.int (107 : Int32))] [(.ref a1)])) rfl (by rw [hml]; rfl) rfl (hb hby d44_18) (by decide) (W := 0) (cap := 107) (by show 2 * 0 + _ ≤ _; exact Nat.le_of_eq rfl) (by decide) (by decide) (by decide) (by decide)
  obtain ⟨b2, g2⟩ : ∃ z, z = h0.size := ⟨_, rfl⟩
  rw [← g2] at Vh2 Ea2 st2
  have V2 : Arv Z h2 b2 k .byte (107 : Int32) vs (.int (0 : Int32)) := Vh2
  have K2 : Keep h0 h2 [] := (Keep.refl h0 []).ext E2
  have s2 : h0.size ≤ b2 := Nat.le_of_eq g2.symm
  obtain ⟨T3, X3, e3, st3⟩ := castY X2 hx hZ hown (wJ hw 298 rfl) e2 (Ins.self Ea2) (g := (mkF m 21 #[.val (.ref a1), .val (.int (0 : Int32)), .val (.int (107 : Int32))] [(.ref b2)])) rfl rfl (hb hby d44_21)
  obtain ⟨fs, hr, hrun, hended, hW, hsame⟩ := X3.leave (v := some (.ref b2)) (fun h => by rw [Bd.returns] at h; cases h)
  refine ⟨_, _, pre0 _ ?_, hrun, hended, _, _, rfl, ?_, ⟨_, rfl⟩, hW, hsame.mono (by decide) (by decide)⟩
  · show Steps p.tables e below (s₁.setTop (mkF m 0 #[.val (.ref a1), .val (.int (0 : Int32)), .val (.int (107 : Int32))] [])) _
    refine XS.iloadN X0.here hx rfl (hb hby d44_0) rfl ?_
    refine XS.ifNo X0.here hx rfl (hb hby d44_1) rfl ((if0 _ _).trans (teq (rfl : (0 : Int32) = (0 : Int32))).2) ?_
    refine XS.iloadN X0.here hx rfl (hb hby d44_4) rfl ?_
    refine XS.aloadN X0.here hx rfl (hb hby d44_5) rfl rfl ?_
    show Steps _ _ _ (s₁.setTop (mkF m 6 #[.val (.ref a1), .val (.int (0 : Int32)), .val (.int (107 : Int32))] [(.ref a1), (.int (107 : Int32))])) _
    refine X0.arraylength hx (by rw [e0]; exact Ar1.1) (State.isArrayOf_alike hZ.alike Ar1.2.1) (g := (mkF m 6 #[.val (.ref a1), .val (.int (0 : Int32)), .val (.int (107 : Int32))] [(.ref a1), (.int (107 : Int32))])) rfl rfl (hb hby d44_6) _ ?_
    rw [len_of S1 Nn1]
    show Steps _ _ _ (s₁.setTop (mkF m 7 #[.val (.ref a1), .val (.int (0 : Int32)), .val (.int (107 : Int32))] [(.int (107 : Int32)), (.int (107 : Int32))])) _
    refine XS.icmpYes X0.here hx rfl (pc0 := 7) (pc' := 17) rfl (hb hby d44_7) rfl (teq (rfl : (107 : Int32) = (107 : Int32))).1 (by decide) (by decide) ?_
    refine XS.aloadN X0.here hx rfl (hb hby d44_17) rfl rfl ?_
    refine st2 _ ?_
    refine st3 _ ?_
    show Steps _ _ _ (T3.setTop (mkF m 24 #[.val (.ref a1), .val (.int (0 : Int32)), .val (.int (107 : Int32))] [(.ref b2)])) _
    exact retOut X3 hx Bd.returns rfl (Or.inr (Or.inr (Or.inr (Or.inr ⟨rfl, rfl, rfl⟩)))) (hb hby d44_24) hr
  · show Qown_cr_107 Z a1 k vs h0 n0 _ T3.heap _
    rw [e3]
    exact ⟨b2, rfl, N0, K2, Nat.le_trans Z0 s2, s2, k, vs, hl, V2⟩
theorem ef_own_sia_107 (m : MethodId) (x0 : Addr) (x1 : Addr) : entryFrame m #[(.ref x0), (.ref x1), .null] 5 = mkF m 0 #[.val (.ref x0), .val (.ref x1), .val .null, .unset, .unset] [] := by first | (simp [entryFrame, mkF, argsToLocals, Value.category]; done) | rfl
def Qown_sia_107 (Z : State) (a1 : Addr) (a2 : Addr) (nb2 : Nat) (cs : Int32) (nb : Nat) (h0 : Heap) (n0 : Nat) (v : Option Value) (h : Heap) (L : List Loc) : Prop := v = none ∧ Fr n0 L ∧ Keep h0 h [a1] ∧ own_str Z h a1 (107 : Int32)
theorem own_sia_107 (l : Launch) (Z : State) (a0 : Array Value) (hw : ∀ d ∈ tables_1, d.before a0 Z = true) (ws : List Jvm.Cond) (a1 : Addr) (a2 : Addr) (nb2 : Nat) (cs : Int32) (nb : Nat) (h0 : Heap) (n0 : Nat) (Z0 : n0 ≤ h0.size) (F1 : Fld Z h0 a1 "java/lang/String" "value" "[B" .null) (F2 : Fld Z h0 a1 "java/lang/String" "coder" "B" (.int (0 : Int32))) (E1 : Exa Z h0 a1 "java/lang/String") (g_a1 : n0 ≤ a1) (B1 : own_sb Z h0 nb2 a2 (107 : Int32) (107 : Int32)) (SC : own_S Z h0 nb "java/lang/String" "COMPACT_STRINGS" "Z" (.int cs)) (hcs : ¬ (cs = (0 : Int32))) :
    MetFree l mn29 (head1 (Jvm.Cond.code mn29 jdk_42_method_150_code 5 none :: ws) (⟨2, 1, 107, 29⟩ : Room)) (fun a U => a = #[(.ref a1), (.ref a2), .null] ∧ Z.Warmed39 U.vm ∧ U.heap = h0) (fun _ _ _ _ _ => True) (fun _ U o U' => ∃ v L, o = .returned v ∧ Qown_sia_107 Z a1 a2 nb2 cs nb h0 n0 v U'.heap L ∧ FrameEnd U o U' L (⟨2, 1, 107, 29⟩ : Room).cells (⟨2, 1, 107, 29⟩ : Room).slots) := by
  refine MetFree.of_bodySF (plainFor_of_name pn_java_lang_String) hisR ?_
  intro p e s m args below meth c s₁ Bd hml0 hP hK
  obtain ⟨rfl, hZ, hh⟩ := hP
  have hx := Bd.exec
  have hby := Bd.bytes
  have hml : c.maxLocals = 5 := hml0
  have hown : s.vm.findClass "java/lang/String" = some m.cls := findClass_of_methodNamed Bd.named
  have hnm := (name_of_methodNamed Bd.named Bd.method).1
  have X0 : Stand p l e (⟨2, 1, 107, 29⟩ : Room) s m #[(.ref a1), (.ref a2), .null] below meth c s₁ [] 0 0 := Stand.of_body Bd
  have e0 : s₁.heap = h0 := by rw [← hh, Bd.state]; rfl
  have N0 := Fr.nil n0
  have pre0 : ∀ t, Steps p.tables e below (s₁.setTop (mkF m 0 #[.val (.ref a1), .val (.ref a2), .val .null, .unset, .unset] [])) t → Steps p.tables e below (s₁.setTop (entryFrame m #[(.ref a1), (.ref a2), .null] 5)) t := fun t k => castTop (ef_own_sia_107 m (a1) (a2)) k
  obtain ⟨b, k, vs, Eb1, G1, G2, G3, V1, hlb, _, _, _, Eb⟩ := B1
  have nb_ : b ≠ a1 := Ne.symm (Exa.neArv E1 V1 (wJ hw 10 rfl))
  obtain ⟨T1, X1, e1, st1⟩ := initO X0 hx hZ hown (wJ hw 19 rfl) (wJ hw 20 rfl) (wJ hw 21 rfl) e0 (g := (mkF m 1 #[.val (.ref a1), .val (.ref a2), .val .null, .unset, .unset] [(.ref a1)])) rfl (by rw [hml]; rfl) rfl (hb hby d40_1) (by decide) (W := 0) (by show 2 * 0 + _ ≤ _; exact Nat.le_of_eq rfl) (by decide)
  obtain ⟨cq2, kq2, q2a, q2b, q2c⟩ := isOf hZ e1 Eb1
  obtain ⟨_, _, ⟨T2, L2, k2, n2⟩, -, X2, ⟨Lc2, hQ2, l2, y2, z2⟩, st2⟩ := X1.virtualBack hx (y := mn18) (z := mn18) hown (mvT hZ (wJ hw 266 rfl)) (mvT hZ (wJ hw 267 rfl)) (notFace_of_selects (args := #[]) (mvT hZ (wJ hw 269 rfl))) (mvT hZ (wJ hw 269 rfl)) (mvT hZ (wJ hw 268 rfl)) (by decide) (backOf (W := 0) (own_getV l Z a0 hw [] a2 b h0 n0 Z0 G1) hZ (wJ hw 270 rfl) (wJ hw 87 rfl) (by decide) (by decide)) q2a q2c (g := (mkF m 5 #[.val (.ref a1), .val (.ref a2), .val .null, .unset, .unset] [(.ref a2)])) rfl (by rw [hml]; rfl) (Steps.refl _) (argsL := []) (rest := []) (lenOf pd____B rfl) rfl (by show 2 * 0 + _ ≤ _; exact Nat.le_of_eq rfl) (hb hby d40_5) (fun _ _ => ⟨rfl, e1, (by decide : 0 + 0 ≤ _), (by decide : 0 + 0 ≤ _)⟩)
  dsimp only [Pt.U, Pt.locs, Pt.cells, Pt.slots] at X2 l2 y2 z2 st2 hQ2
  replace X2 := X2.more (Nat.le_of_eq (show k2 = 0 from y2)) (Nat.le_of_eq (show n2 = 0 from z2))
  obtain ⟨rfl, Nq2, e2⟩ := hQ2
  have N2 : Fr n0 L2 := by rw [l2]; exact Fr.app N0 Nq2
  obtain ⟨cq3, kq3, q3a, q3b, q3c⟩ := isOf hZ e2 Eb1
  obtain ⟨_, _, ⟨T3, L3, k3, n3⟩, -, X3, ⟨Lc3, hQ3, l3, y3, z3⟩, st3⟩ := X2.virtualBack hx (y := mn21) (z := mn40) hown (mvT hZ (wJ hw 271 rfl)) (mvT hZ (wJ hw 272 rfl)) (own_nf (args := #[]) (mvT hZ (wJ hw 219 rfl)) rfl) (mvT hZ (wJ hw 274 rfl)) (mvT hZ (wJ hw 275 rfl)) (by decide) (backOf (W := 0) (own_lenB l Z a0 hw [] a2 (107 : Int32) h0 n0 Z0 G3 Eb1) hZ (wJ hw 276 rfl) (wJ hw 79 rfl) (by decide) (by decide)) q3a q3c (g := (mkF m 10 #[.val (.ref a1), .val (.ref a2), .val .null, .val (.ref b), .unset] [(.ref a2)])) rfl (by rw [hml]; rfl) (Steps.refl _) (argsL := []) (rest := []) (lenOf pd___I rfl) rfl (by show 2 * 0 + _ ≤ _; exact Nat.le_of_eq rfl) (hb hby d40_10) (fun _ _ => ⟨rfl, e2, (by decide : 0 + 0 ≤ _), (by decide : 0 + 0 ≤ _)⟩)
  dsimp only [Pt.U, Pt.locs, Pt.cells, Pt.slots] at X3 l3 y3 z3 st3 hQ3
  replace X3 := X3.more (Nat.le_of_eq (show k3 = 0 from y3)) (Nat.le_of_eq (show n3 = 0 from z3))
  obtain ⟨rfl, Nq3, e3⟩ := hQ3
  have N3 : Fr n0 L3 := by rw [l3]; exact Fr.app N2 Nq3
  obtain ⟨cq4, kq4, q4a, q4b, q4c⟩ := isOf hZ e3 Eb1
  obtain ⟨_, _, ⟨T4, L4, k4, n4⟩, -, X4, ⟨Lc4, hQ4, l4, y4, z4⟩, st4⟩ := X3.virtualBack hx (y := mn20) (z := mn20) hown (mvT hZ (wJ hw 279 rfl)) (mvT hZ (wJ hw 217 rfl)) (notFace_of_selects (args := #[]) (mvT hZ (wJ hw 219 rfl))) (mvT hZ (wJ hw 219 rfl)) (mvT hZ (wJ hw 218 rfl)) (by decide) (backOf (W := 0) (own_isL l Z a0 hw [] a2 cs nb h0 n0 Z0 G2 SC hcs) hZ (wJ hw 220 rfl) (wJ hw 87 rfl) (by decide) (by decide)) q4a q4c (g := (mkF m 16 #[.val (.ref a1), .val (.ref a2), .val .null, .val (.ref b), .val (.int (107 : Int32))] [(.ref a2)])) rfl (by rw [hml]; rfl) (Steps.refl _) (argsL := []) (rest := []) (lenOf pd___Z rfl) rfl (by show 2 * 0 + _ ≤ _; exact Nat.le_of_eq rfl) (hb hby d40_16) (fun _ _ => ⟨rfl, e3, (by decide : 0 + 0 ≤ _), (by decide : 0 + 0 ≤ _)⟩)
  dsimp only [Pt.U, Pt.locs, Pt.cells, Pt.slots] at X4 l4 y4 z4 st4 hQ4
  replace X4 := X4.more (Nat.le_of_eq (show k4 = 0 from y4)) (Nat.le_of_eq (show n4 = 0 from z4))
  obtain ⟨rfl, Nq4, e4⟩ := hQ4
  have N4 : Fr n0 L4 := by rw [l4]; exact Fr.app N3 Nq4
  obtain ⟨T5, h5, X5, e5, W5, st5⟩ := putFN X4 hx hZ hown (wJ hw 24 rfl) Via.refl e4 F2 E1 (Or.inr ⟨(wJ hw 25 rfl), rfl, hnm⟩) (wJ hw 10 rfl) (ty := .byte) (v' := (.int (0 : Int32))) (by decide) rfl (rfl) (g := (mkF m 24 #[.val (.ref a1), .val (.ref a2), .val .null, .val (.ref b), .val (.int (107 : Int32))] [(.int (0 : Int32)), (.ref a1)])) rfl rfl (hb hby d40_24)
  have Fw5 := F2.same W5
  have K5 : Keep h0 h5 [a1] := (Keep.refl h0 [a1]).wr W5 (Or.inl (wI 0 rfl))
  have N5 := Fr.snoc X5 N4 g_a1
  have Z5 : n0 ≤ h5.size := Nat.le_trans Z0 (Keep.of_wr W5).1
  have fc6 := (V1.other W5 nb_)
  have fc7 := (Eb.wr W5)
  obtain ⟨_, _, ⟨T8, L8, k8, n8⟩, -, X8, ⟨Lc8, hQ8, l8, y8, z8⟩, st8⟩ := Jvm.LawKit.callS X5 hx (y := mn47) hown (mvT hZ (wJ hw 280 rfl)) (mvT hZ (wJ hw 281 rfl)) (mvT hZ (wJ hw 248 rfl)) (mvT hZ (wJ hw 282 rfl)) (by decide) (backOf (W := 1) (own_cr_107 l Z a0 hw [] b k vs h5 n0 Z5 fc6 hlb fc7) hZ (wJ hw 282 rfl) (wJ hw 248 rfl) (by decide) (by decide)) (g := (mkF m 32 #[.val (.ref a1), .val (.ref a2), .val .null, .val (.ref b), .val (.int (107 : Int32))] [(.int (107 : Int32)), (.int (0 : Int32)), (.ref b), (.ref a1)])) rfl (by rw [hml]; rfl) (argsL := [(.ref b), (.int (0 : Int32)), (.int (107 : Int32))]) (rest := [(.ref a1)]) (lenOf pd___BII__B rfl) rfl (by show 2 * 0 + _ ≤ _; exact Nat.le_of_eq rfl) (hb hby d40_32) (fun _ _ => ⟨rfl, e5, (by decide : 0 + 1 ≤ _), (by decide : 0 + 107 ≤ _)⟩)
  dsimp only [Pt.U, Pt.locs, Pt.cells, Pt.slots] at X8 l8 y8 z8 st8 hQ8
  replace X8 := X8.more (Nat.le_of_eq (show k8 = 1 from y8)) (Nat.le_of_eq (show n8 = 107 from z8))
  obtain ⟨b2, rfl, Nq8, Kq8, g_b2, s2, k2, vs2, hl2, V2⟩ := hQ8
  have Z8 : n0 ≤ T8.heap.size := Nat.le_trans Z5 Kq8.1
  have K8 : Keep h0 T8.heap [a1] := K5.trans Kq8 all0
  have N8 : Fr n0 L8 := by rw [l8]; exact Fr.app N5 Nq8
  have fc9 := (E1.wr W5)
  have ne2 : a1 ≠ b2 := Nat.ne_of_lt (Nat.lt_of_lt_of_le fc9.lt s2)
  have fc11 := ((F1.other W5 (Or.inr (slot_ne (Or.inr (wJ hw 23 rfl)) (Or.inr (wJ hw 25 rfl)) (by decide) (t := (.array .byte)) (t' := .byte) (by decide) (by decide)))).keep Kq8 nin0)
  have fc12 := (fc9.keep Kq8)
  obtain ⟨T10, h10, X10, e10, W10, st10⟩ := putF X8 hx hZ hown (host := "") (Or.inl (wJ hw 22 rfl)) Via.refl rfl fc11 fc12 (Or.inr ⟨(wJ hw 23 rfl), rfl, hnm⟩) (wJ hw 10 rfl) (ty := (.array .byte)) (by decide) rfl rfl (g := (mkF m 35 #[.val (.ref a1), .val (.ref a2), .val .null, .val (.ref b), .val (.int (107 : Int32))] [(.ref b2), (.ref a1)])) rfl rfl (hb hby d40_35)
  have Fw10 := fc11.same W10
  have K10 : Keep h0 h10 [a1] := K8.wr W10 (Or.inl (wI 0 rfl))
  have N10 := Fr.snoc X10 N8 g_a1
  have Z10 : n0 ≤ h10.size := Nat.le_trans Z8 (Keep.of_wr W10).1
  have fc13 := (fc12.wr W10)
  have fc14 := ((Fw5.keep Kq8 nin0).other W10 (Or.inr (slot_ne (Or.inr (wJ hw 25 rfl)) (Or.inr (wJ hw 23 rfl)) (by decide) (t := .byte) (t' := (.array .byte)) (by decide) (by decide))))
  have fc15 := (V2.other W10 (Ne.symm ne2))
  obtain ⟨fs, hr, hrun, hended, hW, hsame⟩ := X10.leave (v := none) (fun _ => rfl)
  refine ⟨_, _, pre0 _ ?_, hrun, hended, _, _, rfl, ?_, ⟨_, rfl⟩, hW, hsame.mono (by decide) (by decide)⟩
  · show Steps p.tables e below (s₁.setTop (mkF m 0 #[.val (.ref a1), .val (.ref a2), .val .null, .unset, .unset] [])) _
    refine XS.aloadN X0.here hx rfl (hb hby d40_0) rfl rfl ?_
    refine st1 _ ?_
    refine XS.aloadN X1.here hx rfl (hb hby d40_4) rfl rfl ?_
    refine st2.trans ?_
    show Steps _ _ _ (T2.setTop (mkF m 8 #[.val (.ref a1), .val (.ref a2), .val .null, .unset, .unset] [(.ref b)])) _
    refine XS.astoreN X2.here hx rfl (hb hby d40_8) rfl rfl (l' := #[.val (.ref a1), .val (.ref a2), .val .null, .val (.ref b), .unset]) rfl ?_
    refine XS.aloadN X2.here hx rfl (hb hby d40_9) rfl rfl ?_
    refine st3.trans ?_
    refine XS.istore X3.here hx rfl (hb hby d40_13) rfl (l' := #[.val (.ref a1), .val (.ref a2), .val .null, .val (.ref b), .val (.int (107 : Int32))]) rfl ?_
    show Steps _ _ _ (T3.setTop (mkF m 15 #[.val (.ref a1), .val (.ref a2), .val .null, .val (.ref b), .val (.int (107 : Int32))] [])) _
    refine XS.aloadN X3.here hx rfl (hb hby d40_15) rfl rfl ?_
    refine st4.trans ?_
    refine XS.ifNo X4.here hx rfl (hb hby d40_19) rfl ((if0 _ _).trans (feq (by decide : ¬ ((1 : Int32) = (0 : Int32)))).1) ?_
    refine XS.aloadN X4.here hx rfl (hb hby d40_22) rfl rfl ?_
    show Steps _ _ _ (T4.setTop (mkF m 23 #[.val (.ref a1), .val (.ref a2), .val .null, .val (.ref b), .val (.int (107 : Int32))] [(.ref a1)])) _
    refine XS.iconst X4.here hx rfl (hb hby d40_23) ?_
    refine st5 _ ?_
    refine XS.aloadN X5.here hx rfl (hb hby d40_27) rfl rfl ?_
    refine XS.aloadN X5.here hx rfl (hb hby d40_28) rfl rfl ?_
    show Steps _ _ _ (T5.setTop (mkF m 29 #[.val (.ref a1), .val (.ref a2), .val .null, .val (.ref b), .val (.int (107 : Int32))] [(.ref b), (.ref a1)])) _
    refine XS.iconst X5.here hx rfl (hb hby d40_29) ?_
    refine XS.iload X5.here hx rfl (hb hby d40_30) rfl ?_
    refine st8 _ ?_
    refine st10 _ ?_
    show Steps _ _ _ (T10.setTop (mkF m 38 #[.val (.ref a1), .val (.ref a2), .val .null, .val (.ref b), .val (.int (107 : Int32))] [])) _
    refine XS.goto X10.here hx rfl (pc0 := 38) (pc' := 97) rfl (hb hby d40_38) (by decide) (by decide) ?_
    show Steps _ _ _ (T10.setTop (mkF m 97 #[.val (.ref a1), .val (.ref a2), .val .null, .val (.ref b), .val (.int (107 : Int32))] [])) _
    exact X10.returnOut hx Bd.returns (hb hby d40_97) hr
  · show Qown_sia_107 Z a1 a2 nb2 cs nb h0 n0 _ T10.heap _
    rw [e10]
    exact ⟨rfl, N10, K10, b2, k2, vs2, fc13, Fw10, fc14, fc15, hl2⟩
theorem ef_own_sis_107 (m : MethodId) (x0 : Addr) (x1 : Addr) : entryFrame m #[(.ref x0), (.ref x1)] 2 = mkF m 0 #[.val (.ref x0), .val (.ref x1)] [] := by first | (simp [entryFrame, mkF, argsToLocals, Value.category]; done) | rfl
def Qown_sis_107 (Z : State) (a1 : Addr) (a2 : Addr) (nb2 : Nat) (cs : Int32) (nb : Nat) (h0 : Heap) (n0 : Nat) (v : Option Value) (h : Heap) (L : List Loc) : Prop := v = none ∧ Fr n0 L ∧ Keep h0 h [a1] ∧ own_str Z h a1 (107 : Int32)
theorem own_sis_107 (l : Launch) (Z : State) (a0 : Array Value) (hw : ∀ d ∈ tables_1, d.before a0 Z = true) (ws : List Jvm.Cond) (a1 : Addr) (a2 : Addr) (nb2 : Nat) (cs : Int32) (nb : Nat) (h0 : Heap) (n0 : Nat) (Z0 : n0 ≤ h0.size) (F1 : Fld Z h0 a1 "java/lang/String" "value" "[B" .null) (F2 : Fld Z h0 a1 "java/lang/String" "coder" "B" (.int (0 : Int32))) (E1 : Exa Z h0 a1 "java/lang/String") (g_a1 : n0 ≤ a1) (B1 : own_sb Z h0 nb2 a2 (107 : Int32) (107 : Int32)) (SC : own_S Z h0 nb "java/lang/String" "COMPACT_STRINGS" "Z" (.int cs)) (hcs : ¬ (cs = (0 : Int32))) :
    MetFree l mn30 (head1 (Jvm.Cond.code mn30 jdk_42_method_53_code 2 none :: ws) (⟨3, 1, 107, 45⟩ : Room)) (fun a U => a = #[(.ref a1), (.ref a2)] ∧ Z.Warmed39 U.vm ∧ U.heap = h0) (fun _ _ _ _ _ => True) (fun _ U o U' => ∃ v L, o = .returned v ∧ Qown_sis_107 Z a1 a2 nb2 cs nb h0 n0 v U'.heap L ∧ FrameEnd U o U' L (⟨3, 1, 107, 45⟩ : Room).cells (⟨3, 1, 107, 45⟩ : Room).slots) := by
  refine MetFree.of_bodySF (plainFor_of_name pn_java_lang_String) hisR ?_
  intro p e s m args below meth c s₁ Bd hml0 hP hK
  obtain ⟨rfl, hZ, hh⟩ := hP
  have hx := Bd.exec
  have hby := Bd.bytes
  have hml : c.maxLocals = 2 := hml0
  have hown : s.vm.findClass "java/lang/String" = some m.cls := findClass_of_methodNamed Bd.named
  have hnm := (name_of_methodNamed Bd.named Bd.method).1
  have X0 : Stand p l e (⟨3, 1, 107, 45⟩ : Room) s m #[(.ref a1), (.ref a2)] below meth c s₁ [] 0 0 := Stand.of_body Bd
  have e0 : s₁.heap = h0 := by rw [← hh, Bd.state]; rfl
  have N0 := Fr.nil n0
  have pre0 : ∀ t, Steps p.tables e below (s₁.setTop (mkF m 0 #[.val (.ref a1), .val (.ref a2)] [])) t → Steps p.tables e below (s₁.setTop (entryFrame m #[(.ref a1), (.ref a2)] 2)) t := fun t k => castTop (ef_own_sis_107 m (a1) (a2)) k
  obtain ⟨_, _, ⟨T1, L1, k1, n1⟩, -, X1, ⟨Lc1, hQ1, l1, y1, z1⟩, st1⟩ := X0.specialBack hx (y := mn29) rfl hown (mvT hZ (wJ hw 263 rfl)) (mvT hZ (wJ hw 264 rfl)) (mvT hZ (wJ hw 265 rfl)) (by decide) (backOf (W := 0) (own_sia_107 l Z a0 hw [] a1 a2 nb2 cs nb h0 n0 Z0 F1 F2 E1 g_a1 B1 SC hcs) hZ (wJ hw 265 rfl) (wJ hw 2 rfl) (by decide) (by decide)) (g := (mkF m 3 #[.val (.ref a1), .val (.ref a2)] [.null, (.ref a2), (.ref a1)])) rfl (by rw [hml]; rfl) (Steps.refl _) (a := a1) (argsL := [(.ref a2), .null]) (rest := []) (lenOf pd__Ljava_lang_AbstractStringBuilder_Ljava_lang_Void__V rfl) rfl (by show 2 * 0 + _ ≤ _; exact Nat.le_of_eq rfl) (hb hby d39_3) (fun _ _ => ⟨rfl, e0, (by decide : 0 + 1 ≤ _), (by decide : 0 + 107 ≤ _)⟩)
  dsimp only [Pt.U, Pt.locs, Pt.cells, Pt.slots] at X1 l1 y1 z1 st1 hQ1
  replace X1 := X1.more (Nat.le_of_eq (show k1 = 1 from y1)) (Nat.le_of_eq (show n1 = 107 from z1))
  obtain ⟨rfl, Nq1, Kq1, S2⟩ := hQ1
  have Z1 : n0 ≤ T1.heap.size := Nat.le_trans Z0 Kq1.1
  have K1 : Keep h0 T1.heap [a1] := (Keep.refl h0 [a1]).trans Kq1 (allS (Or.inl (wI 0 rfl)) all0)
  have N1 : Fr n0 L1 := by rw [l1]; exact Fr.app N0 Nq1
  obtain ⟨fs, hr, hrun, hended, hW, hsame⟩ := X1.leave (v := none) (fun _ => rfl)
  refine ⟨_, _, pre0 _ ?_, hrun, hended, _, _, rfl, ?_, ⟨_, rfl⟩, hW, hsame.mono (by decide) (by decide)⟩
  · show Steps p.tables e below (s₁.setTop (mkF m 0 #[.val (.ref a1), .val (.ref a2)] [])) _
    refine XS.aloadN X0.here hx rfl (hb hby d39_0) rfl rfl ?_
    refine XS.aloadN X0.here hx rfl (hb hby d39_1) rfl rfl ?_
    refine XS.aconstNull X0.here hx rfl (hb hby d39_2) ?_
    refine st1.trans ?_
    show Steps _ _ _ (T1.setTop (mkF m 6 #[.val (.ref a1), .val (.ref a2)] [])) _
    exact X1.returnOut hx Bd.returns (hb hby d39_6) hr
  · show Qown_sis_107 Z a1 a2 nb2 cs nb h0 n0 _ T1.heap _
    exact ⟨rfl, N1, K1, S2⟩
theorem ef_own_tos_107 (m : MethodId) (x0 : Addr) : entryFrame m #[(.ref x0)] 1 = mkF m 0 #[.val (.ref x0)] [] := by first | (simp [entryFrame, mkF, argsToLocals, Value.category]; done) | rfl
def Qown_tos_107 (Z : State) (a1 : Addr) (nb2 : Nat) (cs : Int32) (nb : Nat) (h0 : Heap) (n0 : Nat) (v : Option Value) (h : Heap) (L : List Loc) : Prop := (∃ t : Addr, v = some (.ref t) ∧ Fr n0 L ∧ Keep h0 h [] ∧ h0.size ≤ t ∧ own_str Z h t (107 : Int32))
theorem own_tos_107 (l : Launch) (Z : State) (a0 : Array Value) (hw : ∀ d ∈ tables_1, d.before a0 Z = true) (ws : List Jvm.Cond) (a1 : Addr) (nb2 : Nat) (cs : Int32) (nb : Nat) (h0 : Heap) (n0 : Nat) (Z0 : n0 ≤ h0.size) (B1 : own_sb Z h0 nb2 a1 (107 : Int32) (107 : Int32)) (SC : own_S Z h0 nb "java/lang/String" "COMPACT_STRINGS" "Z" (.int cs)) (hcs : ¬ (cs = (0 : Int32))) :
    MetFree l mn41 (head1 (Jvm.Cond.code mn41 jdk_67_method_42_code 1 (some (.object "java/lang/String")) :: ws) (⟨4, 2, 111, 59⟩ : Room)) (fun a U => a = #[(.ref a1)] ∧ Z.Warmed39 U.vm ∧ U.heap = h0) (fun _ _ _ _ _ => True) (fun _ U o U' => ∃ v L, o = .returned v ∧ Qown_tos_107 Z a1 nb2 cs nb h0 n0 v U'.heap L ∧ FrameEnd U o U' L (⟨4, 2, 111, 59⟩ : Room).cells (⟨4, 2, 111, 59⟩ : Room).slots) := by
  refine MetFree.of_bodySF (plainFor_of_name pn_java_lang_StringBuilder) hisR ?_
  intro p e s m args below meth c s₁ Bd hml0 hP hK
  obtain ⟨rfl, hZ, hh⟩ := hP
  have hx := Bd.exec
  have hby := Bd.bytes
  have hml : c.maxLocals = 1 := hml0
  have hown : s.vm.findClass "java/lang/StringBuilder" = some m.cls := findClass_of_methodNamed Bd.named
  have hnm := (name_of_methodNamed Bd.named Bd.method).1
  have X0 : Stand p l e (⟨4, 2, 111, 59⟩ : Room) s m #[(.ref a1)] below meth c s₁ [] 0 0 := Stand.of_body Bd
  have e0 : s₁.heap = h0 := by rw [← hh, Bd.state]; rfl
  have N0 := Fr.nil n0
  have pre0 : ∀ t, Steps p.tables e below (s₁.setTop (mkF m 0 #[.val (.ref a1)] [])) t → Steps p.tables e below (s₁.setTop (entryFrame m #[(.ref a1)] 1)) t := fun t k => castTop (ef_own_tos_107 m (a1)) k
  obtain ⟨T1, h1, X1, e1, E1, A1, D1, -, st1⟩ := newO X0 hx hZ hown (wJ hw 259 rfl) (wJ hw 10 rfl) (wJ hw 2 rfl) e0 (g := (mkF m 0 #[.val (.ref a1)] [])) rfl (hb hby d38_0) (by decide) (by decide)
  obtain ⟨b1, g1⟩ : ∃ z, z = h0.size := ⟨_, rfl⟩
  rw [← g1] at A1 D1 st1
  have g_b1 : n0 ≤ b1 := Nat.le_trans Z0 (Nat.le_of_eq g1.symm)
  have sz_b1 : h0.size ≤ b1 := Nat.le_trans (Keep.refl h0 []).1 (Nat.le_of_eq g1.symm)
  have Z1 : n0 ≤ h1.size := Nat.le_trans Z0 E1.1
  have K1 : Keep h0 h1 [] := (Keep.refl h0 []).ext E1
  have F_value_b1 : Fld Z h1 b1 "java/lang/String" "value" "[B" .null := D1 (Or.inr (wJ hw 23 rfl)) (ty := (.array .byte)) (by decide)
  have F_coder_b1 : Fld Z h1 b1 "java/lang/String" "coder" "B" (.int (0 : Int32)) := D1 (Or.inr (wJ hw 25 rfl)) (ty := .byte) (by decide)
  obtain ⟨_, _, ⟨T2, L2, k2, n2⟩, -, X2, ⟨Lc2, hQ2, l2, y2, z2⟩, st2⟩ := X1.specialBack hx (y := mn30) rfl hown (mvT hZ (wJ hw 260 rfl)) (mvT hZ (wJ hw 261 rfl)) (mvT hZ (wJ hw 262 rfl)) (by decide) (backOf (W := 1) (own_sis_107 l Z a0 hw [] b1 a1 nb2 cs nb h1 n0 Z1 F_value_b1 F_coder_b1 A1 g_b1 (B1.keep ((Keep.refl h0 []).ext E1)) (own_S.W SC ⟨[], ((Keep.refl h0 []).ext E1), all0⟩) hcs) hZ (wJ hw 262 rfl) (wJ hw 2 rfl) (by decide) (by decide)) (g := (mkF m 5 #[.val (.ref a1)] [(.ref a1), (.ref b1), (.ref b1)])) rfl (by rw [hml]; rfl) (Steps.refl _) (a := b1) (argsL := [(.ref a1)]) (rest := [(.ref b1)]) (lenOf pd__Ljava_lang_StringBuilder__V rfl) rfl (by show 2 * 0 + _ ≤ _; exact Nat.le_of_eq rfl) (hb hby d38_5) (fun _ _ => ⟨rfl, e1, (by decide : 1 + 1 ≤ _), (by decide : 4 + 107 ≤ _)⟩)
  dsimp only [Pt.U, Pt.locs, Pt.cells, Pt.slots] at X2 l2 y2 z2 st2 hQ2
  replace X2 := X2.more (Nat.le_of_eq (show k2 = 2 from y2)) (Nat.le_of_eq (show n2 = 111 from z2))
  obtain ⟨rfl, Nq2, Kq2, S2⟩ := hQ2
  have Z2 : n0 ≤ T2.heap.size := Nat.le_trans Z1 Kq2.1
  have K2 : Keep h0 T2.heap [] := K1.trans Kq2 (allS (Or.inr sz_b1) all0)
  have N2 : Fr n0 L2 := by rw [l2]; exact Fr.app N0 Nq2
  obtain ⟨fs, hr, hrun, hended, hW, hsame⟩ := X2.leave (v := some (.ref b1)) (fun h => by rw [Bd.returns] at h; cases h)
  refine ⟨_, _, pre0 _ ?_, hrun, hended, _, _, rfl, ?_, ⟨_, rfl⟩, hW, hsame.mono (by decide) (by decide)⟩
  · show Steps p.tables e below (s₁.setTop (mkF m 0 #[.val (.ref a1)] [])) _
    refine st1 _ ?_
    refine XS.dup X1.here hx rfl (hb hby d38_3) rfl rfl ?_
    refine XS.aloadN X1.here hx rfl (hb hby d38_4) rfl rfl ?_
    refine st2.trans ?_
    show Steps _ _ _ (T2.setTop (mkF m 8 #[.val (.ref a1)] [(.ref b1)])) _
    exact retOut X2 hx Bd.returns rfl (Or.inr (Or.inr (Or.inr (Or.inr ⟨rfl, rfl, rfl⟩)))) (hb hby d38_8) hr
  · show Qown_tos_107 Z a1 nb2 cs nb h0 n0 _ T2.heap _
    exact ⟨b1, rfl, N2, K2, sz_b1, S2⟩
def own_b (c : Int32) : Int32 := nar .byte (c.toInt8.toInt32)
/-- a String of one char, by its byte -/
def own_txt (Z : State) (h : Heap) (t : Addr) (u : Int32) : Prop := ∃ (b : Addr) (k : ClassId), Exa Z h t "java/lang/String" ∧ Fld Z h t "java/lang/String" "value" "[B" (.ref b) ∧ Fld Z h t "java/lang/String" "coder" "B" (.int (0 : Int32)) ∧ Arv Z h b k .byte (1 : Int32) [.int u] (.int (0 : Int32))
theorem own_txt.str {Z : State} {h : Heap} {t : Addr} {u : Int32} (S : own_txt Z h t u) : own_str Z h t (1 : Int32) := by
  obtain ⟨b, k, e, f1, f2, v⟩ := S
  exact ⟨b, k, _, e, f1, f2, v, rfl⟩
theorem own_txt.lt {Z : State} {h : Heap} {t : Addr} {u : Int32} (S : own_txt Z h t u) : t < h.size := by
  obtain ⟨b, k, e, f1, f2, v⟩ := S; exact e.lt
theorem own_txt.exa {Z : State} {h : Heap} {t : Addr} {u : Int32} (S : own_txt Z h t u) : Exa Z h t "java/lang/String" := by
  obtain ⟨b, k, e, f1, f2, v⟩ := S; exact e
theorem own_txt.W {Z : State} {h h' : Heap} {nb : Nat} {t : Addr} {u : Int32} (S : own_txt Z h t u) (q : h.size ≤ nb) (W : own_W nb h h') : own_txt Z h' t u := by
  obtain ⟨b, k, e, f1, f2, v⟩ := S
  exact ⟨b, k, own_W.exa e (Nat.lt_of_lt_of_le f1.lt q) W, own_W.fld f1 (Nat.lt_of_lt_of_le f1.lt q) W, own_W.fld f2 (Nat.lt_of_lt_of_le f1.lt q) W, own_W.arv v (Nat.lt_of_lt_of_le v.lt q) W⟩
def own_eq (u v : Int32) : Int32 := if u = v then 1 else 0
theorem own_nr {t : FieldType} {v : Value} (h : v.isRef = true) : narrow t v = v := by rcases ref_cases h with rfl | ⟨a, rfl⟩ <;> cases t <;> rfl
theorem own_fr {n : String} {v : Value} (h : v.isRef = true) : fits (.object n) v = true := by rcases ref_cases h with rfl | ⟨a, rfl⟩ <;> rfl
theorem own_nz {z : Int32} (h : z = (0 : Int32) ∨ z = (1 : Int32)) : narrow .boolean (.int z) = .int z := by rcases h with rfl | rfl <;> rfl
theorem own_fz {z : Int32} (h : z = (0 : Int32) ∨ z = (1 : Int32)) : fits .boolean (.int z) = true := by rcases h with rfl | rfl <;> rfl
theorem d4_0 : decode c4 0 = .ok (.aload_n 0, 1) := by decide +kernel
theorem d4_1 : decode c4 1 = .ok (.invokespecial 1, 3) := by decide +kernel
theorem d4_4 : decode c4 4 = .ok (.aload_n 0, 1) := by decide +kernel
theorem d4_5 : decode c4 5 = .ok (.aload_n 1, 1) := by decide +kernel
theorem d4_6 : decode c4 6 = .ok (.putfield 9, 3) := by decide +kernel
theorem d4_9 : decode c4 9 = .ok (.aload_n 0, 1) := by decide +kernel
theorem d4_10 : decode c4 10 = .ok (.iload_n 2, 1) := by decide +kernel
theorem d4_11 : decode c4 11 = .ok (.putfield 15, 3) := by decide +kernel
theorem d4_14 : decode c4 14 = .ok (.return_, 1) := by decide +kernel
theorem ef_own_sib (m : MethodId) (x0 : Addr) (x1 : Addr) (x2 : Int32) : entryFrame m #[(.ref x0), (.ref x1), (.int x2)] 3 = mkF m 0 #[.val (.ref x0), .val (.ref x1), .val (.int x2)] [] := by first | (simp [entryFrame, mkF, argsToLocals, Value.category]; done) | rfl
def Qown_sib (Z : State) (a1 : Addr) (a2 : Addr) (h0 : Heap) (n0 : Nat) (v : Option Value) (h : Heap) (L : List Loc) : Prop := v = none ∧ Fr n0 L ∧ Keep h0 h [a1] ∧ Exa Z h a1 "java/lang/String" ∧ Fld Z h a1 "java/lang/String" "value" "[B" (.ref a2) ∧ Fld Z h a1 "java/lang/String" "coder" "B" (.int (0 : Int32))
theorem own_sib (l : Launch) (Z : State) (a0 : Array Value) (hw : ∀ d ∈ tables_1, d.before a0 Z = true) (ws : List Jvm.Cond) (a1 : Addr) (a2 : Addr) (h0 : Heap) (n0 : Nat) (Z0 : n0 ≤ h0.size) (F1 : Fld Z h0 a1 "java/lang/String" "value" "[B" .null) (F2 : Fld Z h0 a1 "java/lang/String" "coder" "B" (.int (0 : Int32))) (E1 : Exa Z h0 a1 "java/lang/String") (g_a1 : n0 ≤ a1) :
    MetFree l mn31 (head1 (Jvm.Cond.code mn31 jdk_42_method_151_code 3 none :: ws) (⟨1, 0, 0, 12⟩ : Room)) (fun a U => a = #[(.ref a1), (.ref a2), (.int (0 : Int32))] ∧ Z.Warmed39 U.vm ∧ U.heap = h0) (fun _ _ _ _ _ => True) (fun _ U o U' => ∃ v L, o = .returned v ∧ Qown_sib Z a1 a2 h0 n0 v U'.heap L ∧ FrameEnd U o U' L (⟨1, 0, 0, 12⟩ : Room).cells (⟨1, 0, 0, 12⟩ : Room).slots) := by
  refine MetFree.of_bodySF (plainFor_of_name pn_java_lang_String) hisR ?_
  intro p e s m args below meth c s₁ Bd hml0 hP hK
  obtain ⟨rfl, hZ, hh⟩ := hP
  have hx := Bd.exec
  have hby := Bd.bytes
  have hml : c.maxLocals = 3 := hml0
  have hown : s.vm.findClass "java/lang/String" = some m.cls := findClass_of_methodNamed Bd.named
  have hnm := (name_of_methodNamed Bd.named Bd.method).1
  have X0 : Stand p l e (⟨1, 0, 0, 12⟩ : Room) s m #[(.ref a1), (.ref a2), (.int (0 : Int32))] below meth c s₁ [] 0 0 := Stand.of_body Bd
  have e0 : s₁.heap = h0 := by rw [← hh, Bd.state]; rfl
  have N0 := Fr.nil n0
  have pre0 : ∀ t, Steps p.tables e below (s₁.setTop (mkF m 0 #[.val (.ref a1), .val (.ref a2), .val (.int (0 : Int32))] [])) t → Steps p.tables e below (s₁.setTop (entryFrame m #[(.ref a1), (.ref a2), (.int (0 : Int32))] 3)) t := fun t k => castTop (ef_own_sib m (a1) (a2) ((0 : Int32))) k
  obtain ⟨T1, X1, e1, st1⟩ := initO X0 hx hZ hown (wJ hw 19 rfl) (wJ hw 20 rfl) (wJ hw 21 rfl) e0 (g := (mkF m 1 #[.val (.ref a1), .val (.ref a2), .val (.int (0 : Int32))] [(.ref a1)])) rfl (by rw [hml]; rfl) rfl (hb hby d4_1) (by decide) (W := 0) (by show 2 * 0 + _ ≤ _; exact Nat.le_of_eq rfl) (by decide)
  obtain ⟨T2, h2, X2, e2, W2, st2⟩ := putF X1 hx hZ hown (host := "") (Or.inl (wJ hw 22 rfl)) Via.refl e1 F1 E1 (Or.inr ⟨(wJ hw 23 rfl), rfl, hnm⟩) (wJ hw 10 rfl) (ty := (.array .byte)) (by decide) rfl rfl (g := (mkF m 6 #[.val (.ref a1), .val (.ref a2), .val (.int (0 : Int32))] [(.ref a2), (.ref a1)])) rfl rfl (hb hby d4_6)
  have Fw2 := F1.same W2
  have K2 : Keep h0 h2 [a1] := (Keep.refl h0 [a1]).wr W2 (Or.inl (wI 0 rfl))
  have N2 := Fr.snoc X2 N0 g_a1
  have Z2 : n0 ≤ h2.size := Nat.le_trans Z0 (Keep.of_wr W2).1
  have fc4 := (F2.other W2 (Or.inr (slot_ne (Or.inr (wJ hw 25 rfl)) (Or.inr (wJ hw 23 rfl)) (by decide) (t := .byte) (t' := (.array .byte)) (by decide) (by decide))))
  have fc5 := (E1.wr W2)
  obtain ⟨T3, h3, X3, e3, W3, st3⟩ := putFN X2 hx hZ hown (wJ hw 24 rfl) Via.refl e2 fc4 fc5 (Or.inr ⟨(wJ hw 25 rfl), rfl, hnm⟩) (wJ hw 10 rfl) (ty := .byte) (v' := (.int (0 : Int32))) (by decide) rfl (rfl) (g := (mkF m 11 #[.val (.ref a1), .val (.ref a2), .val (.int (0 : Int32))] [(.int (0 : Int32)), (.ref a1)])) rfl rfl (hb hby d4_11)
  have Fw3 := fc4.same W3
  have K3 : Keep h0 h3 [a1] := K2.wr W3 (Or.inl (wI 0 rfl))
  have N3 := Fr.snoc X3 N2 g_a1
  have Z3 : n0 ≤ h3.size := Nat.le_trans Z2 (Keep.of_wr W3).1
  have fc6 := (fc5.wr W3)
  have fc7 := (Fw2.other W3 (Or.inr (slot_ne (Or.inr (wJ hw 23 rfl)) (Or.inr (wJ hw 25 rfl)) (by decide) (t := (.array .byte)) (t' := .byte) (by decide) (by decide))))
  obtain ⟨fs, hr, hrun, hended, hW, hsame⟩ := X3.leave (v := none) (fun _ => rfl)
  refine ⟨_, _, pre0 _ ?_, hrun, hended, _, _, rfl, ?_, ⟨_, rfl⟩, hW, hsame.mono (by decide) (by decide)⟩
  · show Steps p.tables e below (s₁.setTop (mkF m 0 #[.val (.ref a1), .val (.ref a2), .val (.int (0 : Int32))] [])) _
    refine XS.aloadN X0.here hx rfl (hb hby d4_0) rfl rfl ?_
    refine st1 _ ?_
    refine XS.aloadN X1.here hx rfl (hb hby d4_4) rfl rfl ?_
    refine XS.aloadN X1.here hx rfl (hb hby d4_5) rfl rfl ?_
    show Steps _ _ _ (T1.setTop (mkF m 6 #[.val (.ref a1), .val (.ref a2), .val (.int (0 : Int32))] [(.ref a2), (.ref a1)])) _
    refine st2 _ ?_
    refine XS.aloadN X2.here hx rfl (hb hby d4_9) rfl rfl ?_
    refine XS.iloadN X2.here hx rfl (hb hby d4_10) rfl ?_
    refine st3 _ ?_
    show Steps _ _ _ (T3.setTop (mkF m 14 #[.val (.ref a1), .val (.ref a2), .val (.int (0 : Int32))] [])) _
    exact X3.returnOut hx Bd.returns (hb hby d4_14) hr
  · show Qown_sib Z a1 a2 h0 n0 _ T3.heap _
    rw [e3]
    exact ⟨rfl, N3, K3, fc6, fc7, Fw3⟩
theorem d2_0 : decode c2 0 = .ok (.iload_n 0, 1) := by decide +kernel
theorem d2_1 : decode c2 1 = .ok (.sipush 255, 3) := by decide +kernel
theorem d2_4 : decode c2 4 = .ok (.if_icmp .gt 7, 3) := by decide +kernel
theorem d2_7 : decode c2 7 = .ok (.iconst 1, 1) := by decide +kernel
theorem d2_8 : decode c2 8 = .ok (.goto 4, 3) := by decide +kernel
theorem d2_12 : decode c2 12 = .ok (.ireturn, 1) := by decide +kernel
theorem pn_java_lang_StringLatin1 : plainName "java/lang/StringLatin1" = true := by first | (simp [plainName, overriddenIn]; done) | decide +kernel
theorem ef_own_can (m : MethodId) (x0 : Int32) : entryFrame m #[(.int x0)] 1 = mkF m 0 #[.val (.int x0)] [] := by first | (simp [entryFrame, mkF, argsToLocals, Value.category]; done) | rfl
def Qown_can (Z : State) (p1 : Int32) (h0 : Heap) (n0 : Nat) (v : Option Value) (h : Heap) (L : List Loc) : Prop := v = some (.int (1 : Int32)) ∧ Fr n0 L ∧ h = h0
theorem own_can (l : Launch) (Z : State) (a0 : Array Value) (hw : ∀ d ∈ tables_1, d.before a0 Z = true) (ws : List Jvm.Cond) (p1 : Int32) (h0 : Heap) (n0 : Nat) (Z0 : n0 ≤ h0.size) (hc : ¬ ((255 : Int32) < p1)) :
    MetFree l mn42 (head1 (Jvm.Cond.code mn42 jdk_43_method_3_code 1 (some .boolean) :: ws) (⟨0, 0, 0, 0⟩ : Room)) (fun a U => a = #[(.int p1)] ∧ Z.Warmed39 U.vm ∧ U.heap = h0) (fun _ _ _ _ _ => True) (fun _ U o U' => ∃ v L, o = .returned v ∧ Qown_can Z p1 h0 n0 v U'.heap L ∧ FrameEnd U o U' L (⟨0, 0, 0, 0⟩ : Room).cells (⟨0, 0, 0, 0⟩ : Room).slots) := by
  refine MetFree.of_bodySF (plainFor_of_name pn_java_lang_StringLatin1) hisR ?_
  intro p e s m args below meth c s₁ Bd hml0 hP hK
  obtain ⟨rfl, hZ, hh⟩ := hP
  have hx := Bd.exec
  have hby := Bd.bytes
  have hml : c.maxLocals = 1 := hml0
  have hown : s.vm.findClass "java/lang/StringLatin1" = some m.cls := findClass_of_methodNamed Bd.named
  have hnm := (name_of_methodNamed Bd.named Bd.method).1
  have X0 : Stand p l e (⟨0, 0, 0, 0⟩ : Room) s m #[(.int p1)] below meth c s₁ [] 0 0 := Stand.of_body Bd
  have e0 : s₁.heap = h0 := by rw [← hh, Bd.state]; rfl
  have N0 := Fr.nil n0
  have pre0 : ∀ t, Steps p.tables e below (s₁.setTop (mkF m 0 #[.val (.int p1)] [])) t → Steps p.tables e below (s₁.setTop (entryFrame m #[(.int p1)] 1)) t := fun t k => castTop (ef_own_can m (p1)) k
  obtain ⟨fs, hr, hrun, hended, hW, hsame⟩ := X0.leave (v := some (.int (1 : Int32))) (fun h => by rw [Bd.returns] at h; cases h)
  refine ⟨_, _, pre0 _ ?_, hrun, hended, _, _, rfl, ?_, ⟨_, rfl⟩, hW, hsame.mono (by decide) (by decide)⟩
  · show Steps p.tables e below (s₁.setTop (mkF m 0 #[.val (.int p1)] [])) _
    refine XS.iloadN X0.here hx rfl (hb hby d2_0) rfl ?_
    refine XS.sipush X0.here hx rfl (hb hby d2_1) ?_
    refine XS.icmpNo X0.here hx rfl (hb hby d2_4) rfl (flt (hc : ¬ ((255 : Int32) < p1))).2.2.1 ?_
    refine XS.iconst X0.here hx rfl (hb hby d2_7) ?_
    show Steps _ _ _ (s₁.setTop (mkF m 8 #[.val (.int p1)] [(.int (1 : Int32))])) _
    refine XS.goto X0.here hx rfl (pc0 := 8) (pc' := 12) rfl (hb hby d2_8) (by decide) (by decide) ?_
    show Steps _ _ _ (s₁.setTop (mkF m 12 #[.val (.int p1)] [(.int (1 : Int32))])) _
    exact retN X0 hx (t := .boolean) Bd.returns (by simp) (hb hby d2_12) hr
  · show Qown_can Z p1 h0 n0 _ s₁.heap _
    rw [e0]
    exact ⟨rfl, N0, rfl⟩
theorem d3_0 : decode c3 0 = .ok (.iconst 1, 1) := by decide +kernel
theorem d3_1 : decode c3 1 = .ok (.newarray .byte, 2) := by decide +kernel
theorem d3_3 : decode c3 3 = .ok (.dup, 1) := by decide +kernel
theorem d3_4 : decode c3 4 = .ok (.iconst 0, 1) := by decide +kernel
theorem d3_5 : decode c3 5 = .ok (.iload_n 0, 1) := by decide +kernel
theorem d3_6 : decode c3 6 = .ok (.i2b, 1) := by decide +kernel
theorem d3_7 : decode c3 7 = .ok (.bastore, 1) := by decide +kernel
theorem d3_8 : decode c3 8 = .ok (.areturn, 1) := by decide +kernel
theorem ef_own_tob (m : MethodId) (x0 : Int32) : entryFrame m #[(.int x0)] 1 = mkF m 0 #[.val (.int x0)] [] := by first | (simp [entryFrame, mkF, argsToLocals, Value.category]; done) | rfl
def Qown_tob (Z : State) (p1 : Int32) (h0 : Heap) (n0 : Nat) (v : Option Value) (h : Heap) (L : List Loc) : Prop := (∃ b2 : Addr, v = some (.ref b2) ∧ Fr n0 L ∧ Keep h0 h [] ∧ n0 ≤ b2 ∧ h0.size ≤ b2 ∧ ∃ k2 : ClassId, Arv Z h b2 k2 .byte (1 : Int32) [.int (own_b p1)] (.int (0 : Int32)))
theorem own_tob (l : Launch) (Z : State) (a0 : Array Value) (hw : ∀ d ∈ tables_1, d.before a0 Z = true) (ws : List Jvm.Cond) (p1 : Int32) (h0 : Heap) (n0 : Nat) (Z0 : n0 ≤ h0.size) :
    MetFree l mn44 (head1 (Jvm.Cond.code mn44 jdk_43_method_46_code 1 (some (.array .byte)) :: ws) (⟨0, 1, 1, 0⟩ : Room)) (fun a U => a = #[(.int p1)] ∧ Z.Warmed39 U.vm ∧ U.heap = h0) (fun _ _ _ _ _ => True) (fun _ U o U' => ∃ v L, o = .returned v ∧ Qown_tob Z p1 h0 n0 v U'.heap L ∧ FrameEnd U o U' L (⟨0, 1, 1, 0⟩ : Room).cells (⟨0, 1, 1, 0⟩ : Room).slots) := by
  refine MetFree.of_bodySF (plainFor_of_name pn_java_lang_StringLatin1) hisR ?_
  intro p e s m args below meth c s₁ Bd hml0 hP hK
  obtain ⟨rfl, hZ, hh⟩ := hP
  have hx := Bd.exec
  have hby := Bd.bytes
  have hml : c.maxLocals = 1 := hml0
  have hown : s.vm.findClass "java/lang/StringLatin1" = some m.cls := findClass_of_methodNamed Bd.named
  have hnm := (name_of_methodNamed Bd.named Bd.method).1
  have X0 : Stand p l e (⟨0, 1, 1, 0⟩ : Room) s m #[(.int p1)] below meth c s₁ [] 0 0 := Stand.of_body Bd
  have e0 : s₁.heap = h0 := by rw [← hh, Bd.state]; rfl
  have N0 := Fr.nil n0
  have pre0 : ∀ t, Steps p.tables e below (s₁.setTop (mkF m 0 #[.val (.int p1)] [])) t → Steps p.tables e below (s₁.setTop (entryFrame m #[(.int p1)] 1)) t := fun t k => castTop (ef_own_tob m (p1)) k
  obtain ⟨T1, h1, k1, X1, e1, E1, A1, st1⟩ := newP X0 hx hZ (wJ hw 14 rfl) e0 (g := (mkF m 1 #[.val (.int p1)] [(.int (1 : Int32))])) rfl (hb hby d3_1) rfl (by decide) (cap := 1) (by decide) (by decide) (by decide) (by decide)
  obtain ⟨b1, g1⟩ : ∃ z, z = h0.size := ⟨_, rfl⟩
  rw [← g1] at A1 st1
  have V1 : Arv Z h1 b1 k1 .byte (1 : Int32) [(.int (0 : Int32))] (.int (0 : Int32)) := (Arv.new A1 (by decide)).pad (pad_rep [] (.int (0 : Int32)) 1)
  have g_b1 : n0 ≤ b1 := Nat.le_trans Z0 (Nat.le_of_eq g1.symm)
  have sz_b1 : h0.size ≤ b1 := Nat.le_trans (Keep.refl h0 []).1 (Nat.le_of_eq g1.symm)
  have Z1 : n0 ≤ h1.size := Nat.le_trans Z0 E1.1
  have K1 : Keep h0 h1 [] := (Keep.refl h0 []).ext E1
  obtain ⟨cl2, Ar2, qc2, S2, Nn2, H2, G2⟩ := id V1
  have hin2 : ¬ ((0 : Int32) < 0 ∨ cl2.slots.size ≤ ((0 : Int32)).toNatClampNeg) := inb_of S2 ⟨by decide, by decide⟩
  obtain ⟨T3, h3, X3, e3, W3, st3⟩ := stB X1 hx hZ e1 Ar2 (j := (0 : Int32)) hin2 (g := (mkF m 7 #[.val (.int p1)] [(.int (p1.toInt8.toInt32)), (.int (0 : Int32)), (.ref b1), (.ref b1)])) rfl rfl (hb hby d3_7)
  have V3 : Arv Z h3 b1 k1 .byte (1 : Int32) [(.int (nar .byte (p1.toInt8.toInt32)))] (.int (0 : Int32)) := Arv.set Ar2 qc2 S2 Nn2 H2 G2 (fits_nar_byte _) W3 0 rfl (Nat.le_of_ble_eq_true rfl)
  have K3 : Keep h0 h3 [] := K1.wr W3 (Or.inr sz_b1)
  have N3 := Fr.snoc X3 N0 g_b1
  have Z3 : n0 ≤ h3.size := Nat.le_trans Z1 (Keep.of_wr W3).1
  obtain ⟨fs, hr, hrun, hended, hW, hsame⟩ := X3.leave (v := some (.ref b1)) (fun h => by rw [Bd.returns] at h; cases h)
  refine ⟨_, _, pre0 _ ?_, hrun, hended, _, _, rfl, ?_, ⟨_, rfl⟩, hW, hsame.mono (by decide) (by decide)⟩
  · show Steps p.tables e below (s₁.setTop (mkF m 0 #[.val (.int p1)] [])) _
    refine XS.iconst X0.here hx rfl (hb hby d3_0) ?_
    refine st1 _ ?_
    refine XS.dup X1.here hx rfl (hb hby d3_3) rfl rfl ?_
    refine XS.iconst X1.here hx rfl (hb hby d3_4) ?_
    show Steps _ _ _ (T1.setTop (mkF m 5 #[.val (.int p1)] [(.int (0 : Int32)), (.ref b1), (.ref b1)])) _
    refine XS.iloadN X1.here hx rfl (hb hby d3_5) rfl ?_
    refine XS.i2b X1.here hx rfl (hb hby d3_6) rfl ?_
    refine st3 _ ?_
    show Steps _ _ _ (T3.setTop (mkF m 8 #[.val (.int p1)] [(.ref b1)])) _
    exact retOut X3 hx Bd.returns rfl (Or.inr (Or.inr (Or.inr (Or.inr ⟨rfl, rfl, rfl⟩)))) (hb hby d3_8) hr
  · show Qown_tob Z p1 h0 n0 _ T3.heap _
    rw [e3]
    exact ⟨b1, rfl, N3, K3, g_b1, sz_b1, k1, V3⟩
theorem d1_0 : decode c1 0 = .ok (.getstatic 38, 3) := by decide +kernel
theorem d1_3 : decode c1 3 = .ok (.ifCond .eq 23, 3) := by decide +kernel
theorem d1_6 : decode c1 6 = .ok (.iload_n 0, 1) := by decide +kernel
theorem d1_7 : decode c1 7 = .ok (.invokestatic 1015, 3) := by decide +kernel
theorem pd__C_Z : parseMethodDescriptor "(C)Z" = some ⟨[.char], some .boolean⟩ := by decide +kernel
theorem d1_10 : decode c1 10 = .ok (.ifCond .eq 16, 3) := by decide +kernel
theorem d1_13 : decode c1 13 = .ok (.new 10, 3) := by decide +kernel
theorem d1_16 : decode c1 16 = .ok (.dup, 1) := by decide +kernel
theorem d1_17 : decode c1 17 = .ok (.iload_n 0, 1) := by decide +kernel
theorem d1_18 : decode c1 18 = .ok (.invokestatic 1018, 3) := by decide +kernel
theorem pd__C__B : parseMethodDescriptor "(C)[B" = some ⟨[.char], some (.array .byte)⟩ := by decide +kernel
theorem d1_21 : decode c1 21 = .ok (.iconst 0, 1) := by decide +kernel
theorem d1_22 : decode c1 22 = .ok (.invokespecial 209, 3) := by decide +kernel
theorem pd___BB_V : parseMethodDescriptor "([BB)V" = some ⟨[(.array .byte), .byte], none⟩ := by decide +kernel
theorem d1_25 : decode c1 25 = .ok (.areturn, 1) := by decide +kernel
theorem ef_own_valC (m : MethodId) (x0 : Int32) : entryFrame m #[(.int x0)] 1 = mkF m 0 #[.val (.int x0)] [] := by first | (simp [entryFrame, mkF, argsToLocals, Value.category]; done) | rfl
def Qown_valC (Z : State) (p1 : Int32) (cs : Int32) (nb : Nat) (h0 : Heap) (n0 : Nat) (v : Option Value) (h : Heap) (L : List Loc) : Prop := (∃ t : Addr, v = some (.ref t) ∧ Fr n0 L ∧ Keep h0 h [] ∧ h0.size ≤ t ∧ own_txt Z h t (own_b p1))
theorem own_valC (l : Launch) (Z : State) (a0 : Array Value) (hw : ∀ d ∈ tables_1, d.before a0 Z = true) (ws : List Jvm.Cond) (p1 : Int32) (cs : Int32) (nb : Nat) (h0 : Heap) (n0 : Nat) (Z0 : n0 ≤ h0.size) (hc : ¬ ((255 : Int32) < p1)) (SC : own_S Z h0 nb "java/lang/String" "COMPACT_STRINGS" "Z" (.int cs)) (hcs : ¬ (cs = (0 : Int32))) :
    MetFree l mn36 (head1 (Jvm.Cond.code mn36 jdk_42_method_139_code 1 (some (.object "java/lang/String")) :: ws) (⟨2, 2, 5, 27⟩ : Room)) (fun a U => a = #[(.int p1)] ∧ Z.Warmed39 U.vm ∧ U.heap = h0) (fun _ _ _ _ _ => True) (fun _ U o U' => ∃ v L, o = .returned v ∧ Qown_valC Z p1 cs nb h0 n0 v U'.heap L ∧ FrameEnd U o U' L (⟨2, 2, 5, 27⟩ : Room).cells (⟨2, 2, 5, 27⟩ : Room).slots) := by
  refine MetFree.of_bodySF (plainFor_of_name pn_java_lang_String) hisR ?_
  intro p e s m args below meth c s₁ Bd hml0 hP hK
  obtain ⟨rfl, hZ, hh⟩ := hP
  have hx := Bd.exec
  have hby := Bd.bytes
  have hml : c.maxLocals = 1 := hml0
  have hown : s.vm.findClass "java/lang/String" = some m.cls := findClass_of_methodNamed Bd.named
  have hnm := (name_of_methodNamed Bd.named Bd.method).1
  have X0 : Stand p l e (⟨2, 2, 5, 27⟩ : Room) s m #[(.int p1)] below meth c s₁ [] 0 0 := Stand.of_body Bd
  have e0 : s₁.heap = h0 := by rw [← hh, Bd.state]; rfl
  have N0 := Fr.nil n0
  have pre0 : ∀ t, Steps p.tables e below (s₁.setTop (mkF m 0 #[.val (.int p1)] [])) t → Steps p.tables e below (s₁.setTop (entryFrame m #[(.int p1)] 1)) t := fun t k => castTop (ef_own_valC m (p1)) k
  obtain ⟨T1, X1, e1, st1⟩ := getS2 X0 hx hZ hown (host := "") (Or.inl (wJ hw 4 rfl)) Via.refl e0 SC.sta (g := (mkF m 0 #[.val (.int p1)] [])) rfl (hb hby d1_0)
  obtain ⟨_, _, ⟨T2, L2, k2, n2⟩, -, X2, ⟨Lc2, hQ2, l2, y2, z2⟩, st2⟩ := Jvm.LawKit.callS X1 hx (y := mn42) hown (mvT hZ (wJ hw 5 rfl)) (mvT hZ (wJ hw 6 rfl)) (mvT hZ (wJ hw 7 rfl)) (mvT hZ (wJ hw 8 rfl)) (by decide) (backOf (W := 0) (own_can l Z a0 hw [] p1  h0 n0 Z0 hc) hZ (wJ hw 8 rfl) (wJ hw 7 rfl) (by decide) (by decide)) (g := (mkF m 7 #[.val (.int p1)] [(.int p1)])) rfl (by rw [hml]; rfl) (argsL := [(.int p1)]) (rest := []) (lenOf pd__C_Z rfl) rfl (by show 2 * 0 + _ ≤ _; exact Nat.le_of_eq rfl) (hb hby d1_7) (fun _ _ => ⟨rfl, e1, (by decide : 0 + 0 ≤ _), (by decide : 0 + 0 ≤ _)⟩)
  dsimp only [Pt.U, Pt.locs, Pt.cells, Pt.slots] at X2 l2 y2 z2 st2 hQ2
  replace X2 := X2.more (Nat.le_of_eq (show k2 = 0 from y2)) (Nat.le_of_eq (show n2 = 0 from z2))
  obtain ⟨rfl, Nq2, e2⟩ := hQ2
  have N2 : Fr n0 L2 := by rw [l2]; exact Fr.app N0 Nq2
  obtain ⟨T3, h3, X3, e3, E3, A3, D3, -, st3⟩ := newO X2 hx hZ hown (wJ hw 9 rfl) (wJ hw 10 rfl) (wJ hw 2 rfl) e2 (g := (mkF m 13 #[.val (.int p1)] [])) rfl (hb hby d1_13) (by decide) (by decide)
  obtain ⟨b3, g3⟩ : ∃ z, z = h0.size := ⟨_, rfl⟩
  rw [← g3] at A3 D3 st3
  have g_b3 : n0 ≤ b3 := Nat.le_trans Z0 (Nat.le_of_eq g3.symm)
  have sz_b3 : h0.size ≤ b3 := Nat.le_trans (Keep.refl h0 []).1 (Nat.le_of_eq g3.symm)
  have Z3 : n0 ≤ h3.size := Nat.le_trans Z0 E3.1
  have K3 : Keep h0 h3 [] := (Keep.refl h0 []).ext E3
  have F_value_b3 : Fld Z h3 b3 "java/lang/String" "value" "[B" .null := D3 (Or.inr (wJ hw 23 rfl)) (ty := (.array .byte)) (by decide)
  have F_coder_b3 : Fld Z h3 b3 "java/lang/String" "coder" "B" (.int (0 : Int32)) := D3 (Or.inr (wJ hw 25 rfl)) (ty := .byte) (by decide)
  obtain ⟨_, _, ⟨T4, L4, k4, n4⟩, -, X4, ⟨Lc4, hQ4, l4, y4, z4⟩, st4⟩ := Jvm.LawKit.callS X3 hx (y := mn44) hown (mvT hZ (wJ hw 11 rfl)) (mvT hZ (wJ hw 12 rfl)) (mvT hZ (wJ hw 7 rfl)) (mvT hZ (wJ hw 13 rfl)) (by decide) (backOf (W := 2) (own_tob l Z a0 hw [] p1  h3 n0 Z3 ) hZ (wJ hw 13 rfl) (wJ hw 7 rfl) (by decide) (by decide)) (g := (mkF m 18 #[.val (.int p1)] [(.int p1), (.ref b3), (.ref b3)])) rfl (by rw [hml]; rfl) (argsL := [(.int p1)]) (rest := [(.ref b3), (.ref b3)]) (lenOf pd__C__B rfl) rfl (by show 2 * 0 + _ ≤ _; exact Nat.le_of_eq rfl) (hb hby d1_18) (fun _ _ => ⟨rfl, e3, (by decide : 1 + 1 ≤ _), (by decide : 4 + 1 ≤ _)⟩)
  dsimp only [Pt.U, Pt.locs, Pt.cells, Pt.slots] at X4 l4 y4 z4 st4 hQ4
  replace X4 := X4.more (Nat.le_of_eq (show k4 = 2 from y4)) (Nat.le_of_eq (show n4 = 5 from z4))
  obtain ⟨b2, rfl, Nq4, Kq4, g_b2, s2, k2, V2⟩ := hQ4
  have Z4 : n0 ≤ T4.heap.size := Nat.le_trans Z3 Kq4.1
  have K4 : Keep h0 T4.heap [] := K3.trans Kq4 all0
  have N4 : Fr n0 L4 := by rw [l4]; exact Fr.app N2 Nq4
  have fc5 := (F_value_b3.keep Kq4 nin0)
  have fc6 := (F_coder_b3.keep Kq4 nin0)
  have fc7 := (A3.keep Kq4)
  obtain ⟨_, _, ⟨T8, L8, k8, n8⟩, -, X8, ⟨Lc8, hQ8, l8, y8, z8⟩, st8⟩ := X4.specialBack hx (y := mn31) rfl hown (mvT hZ (wJ hw 15 rfl)) (mvT hZ (wJ hw 16 rfl)) (mvT hZ (wJ hw 18 rfl)) (by decide) (backOf (W := 1) (own_sib l Z a0 hw [] b3 b2  T4.heap n0 Z4 fc5 fc6 fc7 g_b3) hZ (wJ hw 18 rfl) (wJ hw 2 rfl) (by decide) (by decide)) (g := (mkF m 22 #[.val (.int p1)] [(.int (0 : Int32)), (.ref b2), (.ref b3), (.ref b3)])) rfl (by rw [hml]; rfl) (Steps.refl _) (a := b3) (argsL := [(.ref b2), (.int (0 : Int32))]) (rest := [(.ref b3)]) (lenOf pd___BB_V rfl) rfl (by show 2 * 0 + _ ≤ _; exact Nat.le_of_eq rfl) (hb hby d1_22) (fun _ _ => ⟨rfl, rfl, (by decide : 2 + 0 ≤ _), (by decide : 5 + 0 ≤ _)⟩)
  dsimp only [Pt.U, Pt.locs, Pt.cells, Pt.slots] at X8 l8 y8 z8 st8 hQ8
  replace X8 := X8.more (Nat.le_of_eq (show k8 = 2 from y8)) (Nat.le_of_eq (show n8 = 5 from z8))
  obtain ⟨rfl, Nq8, Kq8, Et, Gv, Gc⟩ := hQ8
  have Z8 : n0 ≤ T8.heap.size := Nat.le_trans Z4 Kq8.1
  have K8 : Keep h0 T8.heap [] := K4.trans Kq8 (allS (Or.inr sz_b3) all0)
  have N8 : Fr n0 L8 := by rw [l8]; exact Fr.app N4 Nq8
  have ne_b3_b2 : b3 ≠ b2 := Nat.ne_of_lt (Nat.lt_of_lt_of_le A3.lt s2)
  have fc9 := (V2.keep Kq8 (ninS (Ne.symm ne_b3_b2) nin0))
  obtain ⟨fs, hr, hrun, hended, hW, hsame⟩ := X8.leave (v := some (.ref b3)) (fun h => by rw [Bd.returns] at h; cases h)
  refine ⟨_, _, pre0 _ ?_, hrun, hended, _, _, rfl, ?_, ⟨_, rfl⟩, hW, hsame.mono (by decide) (by decide)⟩
  · show Steps p.tables e below (s₁.setTop (mkF m 0 #[.val (.int p1)] [])) _
    refine st1 _ ?_
    refine XS.ifNo X1.here hx rfl (hb hby d1_3) rfl ((if0 _ _).trans (feq (hcs : ¬ (cs = (0 : Int32)))).1) ?_
    refine XS.iloadN X1.here hx rfl (hb hby d1_6) rfl ?_
    refine st2 _ ?_
    show Steps _ _ _ (T2.setTop (mkF m 10 #[.val (.int p1)] [(.int (1 : Int32))])) _
    refine XS.ifNo X2.here hx rfl (hb hby d1_10) rfl ((if0 _ _).trans (feq (by decide : ¬ ((1 : Int32) = (0 : Int32)))).1) ?_
    refine st3 _ ?_
    refine XS.dup X3.here hx rfl (hb hby d1_16) rfl rfl ?_
    refine XS.iloadN X3.here hx rfl (hb hby d1_17) rfl ?_
    show Steps _ _ _ (T3.setTop (mkF m 18 #[.val (.int p1)] [(.int p1), (.ref b3), (.ref b3)])) _
    refine st4 _ ?_
    refine XS.iconst X4.here hx rfl (hb hby d1_21) ?_
    refine st8.trans ?_
    show Steps _ _ _ (T8.setTop (mkF m 25 #[.val (.int p1)] [(.ref b3)])) _
    exact retOut X8 hx Bd.returns rfl (Or.inr (Or.inr (Or.inr (Or.inr ⟨rfl, rfl, rfl⟩)))) (hb hby d1_25) hr
  · show Qown_valC Z p1 cs nb h0 n0 _ T8.heap _
    exact ⟨b3, rfl, N8, K8, sz_b3, b2, k2, Et, Gv, Gc, fc9⟩
theorem d15_0 : decode c15 0 = .ok (.aload_n 0, 1) := by decide +kernel
theorem d15_1 : decode c15 1 = .ok (.arraylength, 1) := by decide +kernel
theorem d15_2 : decode c15 2 = .ok (.aload_n 1, 1) := by decide +kernel
theorem d15_3 : decode c15 3 = .ok (.arraylength, 1) := by decide +kernel
theorem d15_4 : decode c15 4 = .ok (.if_icmp .ne 30, 3) := by decide +kernel
theorem d15_7 : decode c15 7 = .ok (.iconst 0, 1) := by decide +kernel
theorem d15_8 : decode c15 8 = .ok (.istore_n 2, 1) := by decide +kernel
theorem d15_9 : decode c15 9 = .ok (.iload_n 2, 1) := by decide +kernel
theorem d15_10 : decode c15 10 = .ok (.aload_n 0, 1) := by decide +kernel
theorem d15_11 : decode c15 11 = .ok (.arraylength, 1) := by decide +kernel
theorem d15_12 : decode c15 12 = .ok (.if_icmp .ge 20, 3) := by decide +kernel
theorem d15_15 : decode c15 15 = .ok (.aload_n 0, 1) := by decide +kernel
theorem d15_16 : decode c15 16 = .ok (.iload_n 2, 1) := by decide +kernel
theorem d15_17 : decode c15 17 = .ok (.baload, 1) := by decide +kernel
theorem d15_18 : decode c15 18 = .ok (.aload_n 1, 1) := by decide +kernel
theorem d15_19 : decode c15 19 = .ok (.iload_n 2, 1) := by decide +kernel
theorem d15_20 : decode c15 20 = .ok (.baload, 1) := by decide +kernel
theorem d15_21 : decode c15 21 = .ok (.if_icmp .eq 5, 3) := by decide +kernel
theorem d15_26 : decode c15 26 = .ok (.iinc 2 1, 3) := by decide +kernel
theorem d15_29 : decode c15 29 = .ok (.goto (-20), 3) := by decide +kernel
theorem d15_32 : decode c15 32 = .ok (.iconst 1, 1) := by decide +kernel
theorem d15_33 : decode c15 33 = .ok (.ireturn, 1) := by decide +kernel
theorem d15_24 : decode c15 24 = .ok (.iconst 0, 1) := by decide +kernel
theorem d15_25 : decode c15 25 = .ok (.ireturn, 1) := by decide +kernel
theorem ef_own_eqL (m : MethodId) (x0 : Addr) (x1 : Addr) : entryFrame m #[(.ref x0), (.ref x1)] 3 = mkF m 0 #[.val (.ref x0), .val (.ref x1), .unset] [] := by first | (simp [entryFrame, mkF, argsToLocals, Value.category]; done) | rfl
def Qown_eqL (Z : State) (a1 : Addr) (a2 : Addr) (ka : ClassId) (kb : ClassId) (u : Int32) (x : Int32) (h0 : Heap) (n0 : Nat) (v : Option Value) (h : Heap) (L : List Loc) : Prop := v = some (.int (own_eq u x)) ∧ Fr n0 L ∧ h = h0
theorem own_eqL (l : Launch) (Z : State) (a0 : Array Value) (hw : ∀ d ∈ tables_1, d.before a0 Z = true) (ws : List Jvm.Cond) (a1 : Addr) (a2 : Addr) (ka : ClassId) (kb : ClassId) (u : Int32) (x : Int32) (h0 : Heap) (n0 : Nat) (Z0 : n0 ≤ h0.size) (V1 : Arv Z h0 a1 ka .byte (1 : Int32) [.int u] (.int (0 : Int32))) (V2 : Arv Z h0 a2 kb .byte (1 : Int32) [.int x] (.int (0 : Int32))) :
    MetFree l mn43 (head1 (Jvm.Cond.code mn43 jdk_43_method_13_code 3 (some .boolean) :: ws) (⟨0, 0, 0, 0⟩ : Room)) (fun a U => a = #[(.ref a1), (.ref a2)] ∧ Z.Warmed39 U.vm ∧ U.heap = h0) (fun _ _ _ _ _ => True) (fun _ U o U' => ∃ v L, o = .returned v ∧ Qown_eqL Z a1 a2 ka kb u x h0 n0 v U'.heap L ∧ FrameEnd U o U' L (⟨0, 0, 0, 0⟩ : Room).cells (⟨0, 0, 0, 0⟩ : Room).slots) := by
  refine MetFree.of_bodySF (plainFor_of_name pn_java_lang_StringLatin1) hisR ?_
  intro p e s m args below meth c s₁ Bd hml0 hP hK
  obtain ⟨rfl, hZ, hh⟩ := hP
  have hx := Bd.exec
  have hby := Bd.bytes
  have hml : c.maxLocals = 3 := hml0
  have hown : s.vm.findClass "java/lang/StringLatin1" = some m.cls := findClass_of_methodNamed Bd.named
  have hnm := (name_of_methodNamed Bd.named Bd.method).1
  have X0 : Stand p l e (⟨0, 0, 0, 0⟩ : Room) s m #[(.ref a1), (.ref a2)] below meth c s₁ [] 0 0 := Stand.of_body Bd
  have e0 : s₁.heap = h0 := by rw [← hh, Bd.state]; rfl
  have N0 := Fr.nil n0
  have pre0 : ∀ t, Steps p.tables e below (s₁.setTop (mkF m 0 #[.val (.ref a1), .val (.ref a2), .unset] [])) t → Steps p.tables e below (s₁.setTop (entryFrame m #[(.ref a1), (.ref a2)] 3)) t := fun t k => castTop (ef_own_eqL m (a1) (a2)) k
  obtain ⟨cl1, Ar1, qc1, S1, Nn1, H1, G1⟩ := id V1
  obtain ⟨cl2, Ar2, qc2, S2, Nn2, H2, G2⟩ := id V2
  obtain ⟨cl3, Ar3, qc3, S3, Nn3, H3, G3⟩ := id V1
  obtain ⟨cl4, Ar4, qc4, S4, Nn4, H4, G4⟩ := id V1
  have hin4 : ¬ ((0 : Int32) < 0 ∨ cl4.slots.size ≤ ((0 : Int32)).toNatClampNeg) := inb_of S4 ⟨by decide, by decide⟩
  have hat4 : cl4.slots[((0 : Int32)).toNatClampNeg]? = some (.int u) := H4.at hin4 (rfl)
  obtain ⟨cl5, Ar5, qc5, S5, Nn5, H5, G5⟩ := id V2
  have hin5 : ¬ ((0 : Int32) < 0 ∨ cl5.slots.size ≤ ((0 : Int32)).toNatClampNeg) := inb_of S5 ⟨by decide, by decide⟩
  have hat5 : cl5.slots[((0 : Int32)).toNatClampNeg]? = some (.int x) := H5.at hin5 (rfl)
  by_cases hq : u = x
  · obtain ⟨cl6, Ar6, qc6, S6, Nn6, H6, G6⟩ := id V1
    obtain ⟨fs, hr, hrun, hended, hW, hsame⟩ := X0.leave (v := some (.int (1 : Int32))) (fun h => by rw [Bd.returns] at h; cases h)
    refine ⟨_, _, pre0 _ ?_, hrun, hended, _, _, rfl, ?_, ⟨_, rfl⟩, hW, hsame.mono (by decide) (by decide)⟩
    · show Steps p.tables e below (s₁.setTop (mkF m 0 #[.val (.ref a1), .val (.ref a2), .unset] [])) _
      refine XS.aloadN X0.here hx rfl (hb hby d15_0) rfl rfl ?_
      refine X0.arraylength hx (by rw [e0]; exact Ar1.1) (State.isArrayOf_alike hZ.alike Ar1.2.1) (g := (mkF m 1 #[.val (.ref a1), .val (.ref a2), .unset] [(.ref a1)])) rfl rfl (hb hby d15_1) _ ?_
      rw [len_of S1 Nn1]
      show Steps _ _ _ (s₁.setTop (mkF m 2 #[.val (.ref a1), .val (.ref a2), .unset] [(.int (1 : Int32))])) _
      refine XS.aloadN X0.here hx rfl (hb hby d15_2) rfl rfl ?_
      refine X0.arraylength hx (by rw [e0]; exact Ar2.1) (State.isArrayOf_alike hZ.alike Ar2.2.1) (g := (mkF m 3 #[.val (.ref a1), .val (.ref a2), .unset] [(.ref a2), (.int (1 : Int32))])) rfl rfl (hb hby d15_3) _ ?_
      rw [len_of S2 Nn2]
      show Steps _ _ _ (s₁.setTop (mkF m 4 #[.val (.ref a1), .val (.ref a2), .unset] [(.int (1 : Int32)), (.int (1 : Int32))])) _
      refine XS.icmpNo X0.here hx rfl (hb hby d15_4) rfl (teq (rfl : (1 : Int32) = (1 : Int32))).2 ?_
      refine XS.iconst X0.here hx rfl (hb hby d15_7) ?_
      refine XS.istoreN X0.here hx rfl (hb hby d15_8) rfl (l' := #[.val (.ref a1), .val (.ref a2), .val (.int (0 : Int32))]) rfl ?_
      refine XS.iloadN X0.here hx rfl (hb hby d15_9) rfl ?_
      show Steps _ _ _ (s₁.setTop (mkF m 10 #[.val (.ref a1), .val (.ref a2), .val (.int (0 : Int32))] [(.int (0 : Int32))])) _
      refine XS.aloadN X0.here hx rfl (hb hby d15_10) rfl rfl ?_
      refine X0.arraylength hx (by rw [e0]; exact Ar3.1) (State.isArrayOf_alike hZ.alike Ar3.2.1) (g := (mkF m 11 #[.val (.ref a1), .val (.ref a2), .val (.int (0 : Int32))] [(.ref a1), (.int (0 : Int32))])) rfl rfl (hb hby d15_11) _ ?_
      rw [len_of S3 Nn3]
      show Steps _ _ _ (s₁.setTop (mkF m 12 #[.val (.ref a1), .val (.ref a2), .val (.int (0 : Int32))] [(.int (1 : Int32)), (.int (0 : Int32))])) _
      refine XS.icmpNo X0.here hx rfl (hb hby d15_12) rfl (tlt (by decide : (0 : Int32) < (1 : Int32))).2.1 ?_
      refine XS.aloadN X0.here hx rfl (hb hby d15_15) rfl rfl ?_
      refine XS.iloadN X0.here hx rfl (hb hby d15_16) rfl ?_
      refine X0.baloadBytes hx (j := (0 : Int32)) (v := (.int u)) (by rw [e0]; exact Ar4.1) (State.isArrayOf_alike hZ.alike Ar4.2.1) Ar4.2.2 hin4 hat4 (g := (mkF m 17 #[.val (.ref a1), .val (.ref a2), .val (.int (0 : Int32))] [(.int (0 : Int32)), (.ref a1)])) rfl rfl (hb hby d15_17) _ ?_
      show Steps _ _ _ (s₁.setTop (mkF m 18 #[.val (.ref a1), .val (.ref a2), .val (.int (0 : Int32))] [(.int u)])) _
      refine XS.aloadN X0.here hx rfl (hb hby d15_18) rfl rfl ?_
      refine XS.iloadN X0.here hx rfl (hb hby d15_19) rfl ?_
      refine X0.baloadBytes hx (j := (0 : Int32)) (v := (.int x)) (by rw [e0]; exact Ar5.1) (State.isArrayOf_alike hZ.alike Ar5.2.1) Ar5.2.2 hin5 hat5 (g := (mkF m 20 #[.val (.ref a1), .val (.ref a2), .val (.int (0 : Int32))] [(.int (0 : Int32)), (.ref a2), (.int u)])) rfl rfl (hb hby d15_20) _ ?_
      refine XS.icmpYes X0.here hx rfl (pc0 := 21) (pc' := 26) rfl (hb hby d15_21) rfl (teq (hq : u = x)).1 (by decide) (by decide) ?_
      show Steps _ _ _ (s₁.setTop (mkF m 26 #[.val (.ref a1), .val (.ref a2), .val (.int (0 : Int32))] [])) _
      refine XS.iinc X0.here hx rfl (hb hby d15_26) rfl (l' := #[.val (.ref a1), .val (.ref a2), .val (.int ((0 : Int32) + (1 : Int32)))]) rfl ?_
      refine XS.goto X0.here hx rfl (pc0 := 29) (pc' := 9) rfl (hb hby d15_29) (by decide) (by decide) ?_
      refine XS.iloadN X0.here hx rfl (hb hby d15_9) rfl ?_
      refine XS.aloadN X0.here hx rfl (hb hby d15_10) rfl rfl ?_
      show Steps _ _ _ (s₁.setTop (mkF m 11 #[.val (.ref a1), .val (.ref a2), .val (.int ((0 : Int32) + (1 : Int32)))] [(.ref a1), (.int ((0 : Int32) + (1 : Int32)))])) _
      refine X0.arraylength hx (by rw [e0]; exact Ar6.1) (State.isArrayOf_alike hZ.alike Ar6.2.1) (g := (mkF m 11 #[.val (.ref a1), .val (.ref a2), .val (.int ((0 : Int32) + (1 : Int32)))] [(.ref a1), (.int ((0 : Int32) + (1 : Int32)))])) rfl rfl (hb hby d15_11) _ ?_
      rw [len_of S6 Nn6]
      show Steps _ _ _ (s₁.setTop (mkF m 12 #[.val (.ref a1), .val (.ref a2), .val (.int ((0 : Int32) + (1 : Int32)))] [(.int (1 : Int32)), (.int ((0 : Int32) + (1 : Int32)))])) _
      refine XS.icmpYes X0.here hx rfl (pc0 := 12) (pc' := 32) rfl (hb hby d15_12) rfl (flt (by decide : ¬ (((0 : Int32) + (1 : Int32)) < (1 : Int32)))).2.1 (by decide) (by decide) ?_
      refine XS.iconst X0.here hx rfl (hb hby d15_32) ?_
      show Steps _ _ _ (s₁.setTop (mkF m 33 #[.val (.ref a1), .val (.ref a2), .val (.int ((0 : Int32) + (1 : Int32)))] [(.int (1 : Int32))])) _
      exact retN X0 hx (t := .boolean) Bd.returns (by simp) (hb hby d15_33) hr
    · show Qown_eqL Z a1 a2 ka kb u x h0 n0 _ s₁.heap _
      rw [e0]
      exact ⟨by simp [own_eq, hq], N0, rfl⟩
  · obtain ⟨fs, hr, hrun, hended, hW, hsame⟩ := X0.leave (v := some (.int (0 : Int32))) (fun h => by rw [Bd.returns] at h; cases h)
    refine ⟨_, _, pre0 _ ?_, hrun, hended, _, _, rfl, ?_, ⟨_, rfl⟩, hW, hsame.mono (by decide) (by decide)⟩
    · show Steps p.tables e below (s₁.setTop (mkF m 0 #[.val (.ref a1), .val (.ref a2), .unset] [])) _
      refine XS.aloadN X0.here hx rfl (hb hby d15_0) rfl rfl ?_
      refine X0.arraylength hx (by rw [e0]; exact Ar1.1) (State.isArrayOf_alike hZ.alike Ar1.2.1) (g := (mkF m 1 #[.val (.ref a1), .val (.ref a2), .unset] [(.ref a1)])) rfl rfl (hb hby d15_1) _ ?_
      rw [len_of S1 Nn1]
      show Steps _ _ _ (s₁.setTop (mkF m 2 #[.val (.ref a1), .val (.ref a2), .unset] [(.int (1 : Int32))])) _
      refine XS.aloadN X0.here hx rfl (hb hby d15_2) rfl rfl ?_
      refine X0.arraylength hx (by rw [e0]; exact Ar2.1) (State.isArrayOf_alike hZ.alike Ar2.2.1) (g := (mkF m 3 #[.val (.ref a1), .val (.ref a2), .unset] [(.ref a2), (.int (1 : Int32))])) rfl rfl (hb hby d15_3) _ ?_
      rw [len_of S2 Nn2]
      show Steps _ _ _ (s₁.setTop (mkF m 4 #[.val (.ref a1), .val (.ref a2), .unset] [(.int (1 : Int32)), (.int (1 : Int32))])) _
      refine XS.icmpNo X0.here hx rfl (hb hby d15_4) rfl (teq (rfl : (1 : Int32) = (1 : Int32))).2 ?_
      refine XS.iconst X0.here hx rfl (hb hby d15_7) ?_
      refine XS.istoreN X0.here hx rfl (hb hby d15_8) rfl (l' := #[.val (.ref a1), .val (.ref a2), .val (.int (0 : Int32))]) rfl ?_
      refine XS.iloadN X0.here hx rfl (hb hby d15_9) rfl ?_
      show Steps _ _ _ (s₁.setTop (mkF m 10 #[.val (.ref a1), .val (.ref a2), .val (.int (0 : Int32))] [(.int (0 : Int32))])) _
      refine XS.aloadN X0.here hx rfl (hb hby d15_10) rfl rfl ?_
      refine X0.arraylength hx (by rw [e0]; exact Ar3.1) (State.isArrayOf_alike hZ.alike Ar3.2.1) (g := (mkF m 11 #[.val (.ref a1), .val (.ref a2), .val (.int (0 : Int32))] [(.ref a1), (.int (0 : Int32))])) rfl rfl (hb hby d15_11) _ ?_
      rw [len_of S3 Nn3]
      show Steps _ _ _ (s₁.setTop (mkF m 12 #[.val (.ref a1), .val (.ref a2), .val (.int (0 : Int32))] [(.int (1 : Int32)), (.int (0 : Int32))])) _
      refine XS.icmpNo X0.here hx rfl (hb hby d15_12) rfl (tlt (by decide : (0 : Int32) < (1 : Int32))).2.1 ?_
      refine XS.aloadN X0.here hx rfl (hb hby d15_15) rfl rfl ?_
      refine XS.iloadN X0.here hx rfl (hb hby d15_16) rfl ?_
      refine X0.baloadBytes hx (j := (0 : Int32)) (v := (.int u)) (by rw [e0]; exact Ar4.1) (State.isArrayOf_alike hZ.alike Ar4.2.1) Ar4.2.2 hin4 hat4 (g := (mkF m 17 #[.val (.ref a1), .val (.ref a2), .val (.int (0 : Int32))] [(.int (0 : Int32)), (.ref a1)])) rfl rfl (hb hby d15_17) _ ?_
      show Steps _ _ _ (s₁.setTop (mkF m 18 #[.val (.ref a1), .val (.ref a2), .val (.int (0 : Int32))] [(.int u)])) _
      refine XS.aloadN X0.here hx rfl (hb hby d15_18) rfl rfl ?_
      refine XS.iloadN X0.here hx rfl (hb hby d15_19) rfl ?_
      refine X0.baloadBytes hx (j := (0 : Int32)) (v := (.int x)) (by rw [e0]; exact Ar5.1) (State.isArrayOf_alike hZ.alike Ar5.2.1) Ar5.2.2 hin5 hat5 (g := (mkF m 20 #[.val (.ref a1), .val (.ref a2), .val (.int (0 : Int32))] [(.int (0 : Int32)), (.ref a2), (.int u)])) rfl rfl (hb hby d15_20) _ ?_
      refine XS.icmpNo X0.here hx rfl (hb hby d15_21) rfl (feq (hq : ¬ (u = x))).1 ?_
      show Steps _ _ _ (s₁.setTop (mkF m 24 #[.val (.ref a1), .val (.ref a2), .val (.int (0 : Int32))] [])) _
      refine XS.iconst X0.here hx rfl (hb hby d15_24) ?_
      show Steps _ _ _ (s₁.setTop (mkF m 25 #[.val (.ref a1), .val (.ref a2), .val (.int (0 : Int32))] [(.int (0 : Int32))])) _
      exact retN X0 hx (t := .boolean) Bd.returns (by simp) (hb hby d15_25) hr
    · show Qown_eqL Z a1 a2 ka kb u x h0 n0 _ s₁.heap _
      rw [e0]
      exact ⟨by simp [own_eq, hq], N0, rfl⟩
theorem d14_0 : decode c14 0 = .ok (.aload_n 0, 1) := by decide +kernel
theorem d14_1 : decode c14 1 = .ok (.aload_n 1, 1) := by decide +kernel
theorem d14_2 : decode c14 2 = .ok (.if_acmp .ne 5, 3) := by decide +kernel
theorem d14_7 : decode c14 7 = .ok (.aload_n 1, 1) := by decide +kernel
theorem d14_8 : decode c14 8 = .ok (.instanceof 10, 3) := by decide +kernel
theorem d14_11 : decode c14 11 = .ok (.ifCond .eq 43, 3) := by decide +kernel
theorem d14_14 : decode c14 14 = .ok (.aload_n 1, 1) := by decide +kernel
theorem d14_15 : decode c14 15 = .ok (.checkcast 10, 3) := by decide +kernel
theorem d14_18 : decode c14 18 = .ok (.astore_n 2, 1) := by decide +kernel
theorem d14_19 : decode c14 19 = .ok (.getstatic 38, 3) := by decide +kernel
theorem d14_22 : decode c14 22 = .ok (.ifCond .eq 14, 3) := by decide +kernel
theorem d14_25 : decode c14 25 = .ok (.aload_n 0, 1) := by decide +kernel
theorem d14_26 : decode c14 26 = .ok (.getfield 15, 3) := by decide +kernel
theorem d14_29 : decode c14 29 = .ok (.aload_n 2, 1) := by decide +kernel
theorem d14_30 : decode c14 30 = .ok (.getfield 15, 3) := by decide +kernel
theorem d14_33 : decode c14 33 = .ok (.if_icmp .ne 21, 3) := by decide +kernel
theorem d14_36 : decode c14 36 = .ok (.aload_n 0, 1) := by decide +kernel
theorem d14_37 : decode c14 37 = .ok (.getfield 9, 3) := by decide +kernel
theorem d14_40 : decode c14 40 = .ok (.aload_n 2, 1) := by decide +kernel
theorem d14_41 : decode c14 41 = .ok (.getfield 9, 3) := by decide +kernel
theorem d14_44 : decode c14 44 = .ok (.invokestatic 541, 3) := by decide +kernel
theorem pd___B_B_Z : parseMethodDescriptor "([B[B)Z" = some ⟨[(.array .byte), (.array .byte)], some .boolean⟩ := by decide +kernel
theorem d14_47 : decode c14 47 = .ok (.ifCond .eq 7, 3) := by decide +kernel
theorem d14_50 : decode c14 50 = .ok (.iconst 1, 1) := by decide +kernel
theorem d14_51 : decode c14 51 = .ok (.goto 4, 3) := by decide +kernel
theorem d14_55 : decode c14 55 = .ok (.ireturn, 1) := by decide +kernel
theorem d14_54 : decode c14 54 = .ok (.iconst 0, 1) := by decide +kernel
theorem ef_own_eqS (m : MethodId) (x0 : Addr) (x1 : Addr) : entryFrame m #[(.ref x0), (.ref x1)] 3 = mkF m 0 #[.val (.ref x0), .val (.ref x1), .unset] [] := by first | (simp [entryFrame, mkF, argsToLocals, Value.category]; done) | rfl
def Qown_eqS (Z : State) (a1 : Addr) (a2 : Addr) (u : Int32) (x : Int32) (cs : Int32) (nb : Nat) (h0 : Heap) (n0 : Nat) (v : Option Value) (h : Heap) (L : List Loc) : Prop := v = some (.int (own_eq u x)) ∧ Fr n0 L ∧ h = h0
theorem own_eqS (l : Launch) (Z : State) (a0 : Array Value) (hw : ∀ d ∈ tables_1, d.before a0 Z = true) (ws : List Jvm.Cond) (a1 : Addr) (a2 : Addr) (u : Int32) (x : Int32) (cs : Int32) (nb : Nat) (h0 : Heap) (n0 : Nat) (Z0 : n0 ≤ h0.size) (S1 : own_txt Z h0 a1 u) (S2 : own_txt Z h0 a2 x) (hne : a1 ≠ a2) (SC : own_S Z h0 nb "java/lang/String" "COMPACT_STRINGS" "Z" (.int cs)) (hcs : ¬ (cs = (0 : Int32))) :
    MetFree l mn33 (head1 (Jvm.Cond.code mn33 jdk_42_method_66_code 3 (some .boolean) :: ws) (⟨1, 0, 0, 14⟩ : Room)) (fun a U => a = #[(.ref a1), (.ref a2)] ∧ Z.Warmed39 U.vm ∧ U.heap = h0) (fun _ _ _ _ _ => True) (fun _ U o U' => ∃ v L, o = .returned v ∧ Qown_eqS Z a1 a2 u x cs nb h0 n0 v U'.heap L ∧ FrameEnd U o U' L (⟨1, 0, 0, 14⟩ : Room).cells (⟨1, 0, 0, 14⟩ : Room).slots) := by
  refine MetFree.of_bodySF (plainFor_of_name pn_java_lang_String) hisR ?_
  intro p e s m args below meth c s₁ Bd hml0 hP hK
  obtain ⟨rfl, hZ, hh⟩ := hP
  have hx := Bd.exec
  have hby := Bd.bytes
  have hml : c.maxLocals = 3 := hml0
  have hown : s.vm.findClass "java/lang/String" = some m.cls := findClass_of_methodNamed Bd.named
  have hnm := (name_of_methodNamed Bd.named Bd.method).1
  have X0 : Stand p l e (⟨1, 0, 0, 14⟩ : Room) s m #[(.ref a1), (.ref a2)] below meth c s₁ [] 0 0 := Stand.of_body Bd
  have e0 : s₁.heap = h0 := by rw [← hh, Bd.state]; rfl
  have N0 := Fr.nil n0
  have pre0 : ∀ t, Steps p.tables e below (s₁.setTop (mkF m 0 #[.val (.ref a1), .val (.ref a2), .unset] [])) t → Steps p.tables e below (s₁.setTop (entryFrame m #[(.ref a1), (.ref a2)] 3)) t := fun t k => castTop (ef_own_eqS m (a1) (a2)) k
  obtain ⟨b1, ka, E1, F1, F2, V1⟩ := S1
  obtain ⟨b2, kb, E2, G1, G2, V2⟩ := S2
  obtain ⟨T1, X1, e1, st1⟩ := instY X0 hx hZ hown (wJ hw 9 rfl) e0 (Ins.self E2) (g := (mkF m 8 #[.val (.ref a1), .val (.ref a2), .unset] [(.ref a2)])) rfl rfl (hb hby d14_8)
  obtain ⟨T2, X2, e2, st2⟩ := castY X1 hx hZ hown (wJ hw 9 rfl) e1 (Ins.self E2) (g := (mkF m 15 #[.val (.ref a1), .val (.ref a2), .unset] [(.ref a2)])) rfl rfl (hb hby d14_15)
  obtain ⟨T3, X3, e3, st3⟩ := getS2 X2 hx hZ hown (host := "") (Or.inl (wJ hw 4 rfl)) Via.refl e2 SC.sta (g := (mkF m 19 #[.val (.ref a1), .val (.ref a2), .val (.ref a2)] [])) rfl (hb hby d14_19)
  obtain ⟨T4, X4, e4, st4⟩ := getF X3 hx hZ hown (host := "") (Or.inl (wJ hw 24 rfl)) Via.refl e3 F2 (g := (mkF m 26 #[.val (.ref a1), .val (.ref a2), .val (.ref a2)] [(.ref a1)])) rfl rfl (hb hby d14_26)
  obtain ⟨T5, X5, e5, st5⟩ := getF X4 hx hZ hown (host := "") (Or.inl (wJ hw 24 rfl)) Via.refl e4 G2 (g := (mkF m 30 #[.val (.ref a1), .val (.ref a2), .val (.ref a2)] [(.ref a2), (.int (0 : Int32))])) rfl rfl (hb hby d14_30)
  obtain ⟨T6, X6, e6, st6⟩ := getF X5 hx hZ hown (host := "") (Or.inl (wJ hw 22 rfl)) Via.refl e5 F1 (g := (mkF m 37 #[.val (.ref a1), .val (.ref a2), .val (.ref a2)] [(.ref a1)])) rfl rfl (hb hby d14_37)
  obtain ⟨T7, X7, e7, st7⟩ := getF X6 hx hZ hown (host := "") (Or.inl (wJ hw 22 rfl)) Via.refl e6 G1 (g := (mkF m 41 #[.val (.ref a1), .val (.ref a2), .val (.ref a2)] [(.ref a2), (.ref b1)])) rfl rfl (hb hby d14_41)
  obtain ⟨_, _, ⟨T8, L8, k8, n8⟩, -, X8, ⟨Lc8, hQ8, l8, y8, z8⟩, st8⟩ := Jvm.LawKit.callS X7 hx (y := mn43) hown (mvT hZ (wJ hw 122 rfl)) (mvT hZ (wJ hw 123 rfl)) (mvT hZ (wJ hw 7 rfl)) (mvT hZ (wJ hw 124 rfl)) (by decide) (backOf (W := 0) (own_eqL l Z a0 hw [] b1 b2 ka kb u x h0 n0 Z0 V1 V2) hZ (wJ hw 124 rfl) (wJ hw 7 rfl) (by decide) (by decide)) (g := (mkF m 44 #[.val (.ref a1), .val (.ref a2), .val (.ref a2)] [(.ref b2), (.ref b1)])) rfl (by rw [hml]; rfl) (argsL := [(.ref b1), (.ref b2)]) (rest := []) (lenOf pd___B_B_Z rfl) rfl (by show 2 * 0 + _ ≤ _; exact Nat.le_of_eq rfl) (hb hby d14_44) (fun _ _ => ⟨rfl, e7, (by decide : 0 + 0 ≤ _), (by decide : 0 + 0 ≤ _)⟩)
  dsimp only [Pt.U, Pt.locs, Pt.cells, Pt.slots] at X8 l8 y8 z8 st8 hQ8
  replace X8 := X8.more (Nat.le_of_eq (show k8 = 0 from y8)) (Nat.le_of_eq (show n8 = 0 from z8))
  obtain ⟨rfl, Nq8, e8⟩ := hQ8
  have N8 : Fr n0 L8 := by rw [l8]; exact Fr.app N0 Nq8
  by_cases hq : u = x
  · have h1 : own_eq u x = 1 := if_pos hq
    obtain ⟨fs, hr, hrun, hended, hW, hsame⟩ := X8.leave (v := some (.int (1 : Int32))) (fun h => by rw [Bd.returns] at h; cases h)
    refine ⟨_, _, pre0 _ ?_, hrun, hended, _, _, rfl, ?_, ⟨_, rfl⟩, hW, hsame.mono (by decide) (by decide)⟩
    · show Steps p.tables e below (s₁.setTop (mkF m 0 #[.val (.ref a1), .val (.ref a2), .unset] [])) _
      refine XS.aloadN X0.here hx rfl (hb hby d14_0) rfl rfl ?_
      refine XS.aloadN X0.here hx rfl (hb hby d14_1) rfl rfl ?_
      refine Jvm.RoadKit.acmp (g := (mkF m 2 #[.val (.ref a1), .val (.ref a2), .unset] [(.ref a2), (.ref a1)])) X0 hx rfl rfl rfl (pc0 := 2) (pc' := 7) (same := false) rfl (hb hby d14_2) rfl (decide_eq_false fun q => hne (Value.ref.inj q)) (by decide) (by decide) ?_
      refine XS.aloadN X0.here hx rfl (hb hby d14_7) rfl rfl ?_
      show Steps _ _ _ (s₁.setTop (mkF m 8 #[.val (.ref a1), .val (.ref a2), .unset] [(.ref a2)])) _
      refine st1 _ ?_
      refine XS.ifNo X1.here hx rfl (hb hby d14_11) rfl ((if0 _ _).trans (feq (by decide : ¬ ((1 : Int32) = (0 : Int32)))).1) ?_
      refine XS.aloadN X1.here hx rfl (hb hby d14_14) rfl rfl ?_
      refine st2 _ ?_
      show Steps _ _ _ (T2.setTop (mkF m 18 #[.val (.ref a1), .val (.ref a2), .unset] [(.ref a2)])) _
      refine XS.astoreN X2.here hx rfl (hb hby d14_18) rfl rfl (l' := #[.val (.ref a1), .val (.ref a2), .val (.ref a2)]) rfl ?_
      refine st3 _ ?_
      refine XS.ifNo X3.here hx rfl (hb hby d14_22) rfl ((if0 _ _).trans (feq (hcs : ¬ (cs = (0 : Int32)))).1) ?_
      refine XS.aloadN X3.here hx rfl (hb hby d14_25) rfl rfl ?_
      show Steps _ _ _ (T3.setTop (mkF m 26 #[.val (.ref a1), .val (.ref a2), .val (.ref a2)] [(.ref a1)])) _
      refine st4 _ ?_
      refine XS.aloadN X4.here hx rfl (hb hby d14_29) rfl rfl ?_
      refine st5 _ ?_
      refine XS.icmpNo X5.here hx rfl (hb hby d14_33) rfl (teq (rfl : (0 : Int32) = (0 : Int32))).2 ?_
      show Steps _ _ _ (T5.setTop (mkF m 36 #[.val (.ref a1), .val (.ref a2), .val (.ref a2)] [])) _
      refine XS.aloadN X5.here hx rfl (hb hby d14_36) rfl rfl ?_
      refine st6 _ ?_
      refine XS.aloadN X6.here hx rfl (hb hby d14_40) rfl rfl ?_
      refine st7 _ ?_
      show Steps _ _ _ (T7.setTop (mkF m 44 #[.val (.ref a1), .val (.ref a2), .val (.ref a2)] [(.ref b2), (.ref b1)])) _
      refine st8 _ ?_
      refine XS.ifNo X8.here hx rfl (hb hby d14_47) rfl ((if0 _ _).trans (feq (by rw [h1]; decide : ¬ ((own_eq u x) = (0 : Int32)))).1) ?_
      refine XS.iconst X8.here hx rfl (hb hby d14_50) ?_
      refine XS.goto X8.here hx rfl (pc0 := 51) (pc' := 55) rfl (hb hby d14_51) (by decide) (by decide) ?_
      show Steps _ _ _ (T8.setTop (mkF m 55 #[.val (.ref a1), .val (.ref a2), .val (.ref a2)] [(.int (1 : Int32))])) _
      exact retN X8 hx (t := .boolean) Bd.returns (by simp) (hb hby d14_55) hr
    · show Qown_eqS Z a1 a2 u x cs nb h0 n0 _ T8.heap _
      rw [e8]
      exact ⟨by rw [h1], N8, rfl⟩
  · have h1 : own_eq u x = 0 := if_neg hq
    obtain ⟨fs, hr, hrun, hended, hW, hsame⟩ := X8.leave (v := some (.int (0 : Int32))) (fun h => by rw [Bd.returns] at h; cases h)
    refine ⟨_, _, pre0 _ ?_, hrun, hended, _, _, rfl, ?_, ⟨_, rfl⟩, hW, hsame.mono (by decide) (by decide)⟩
    · show Steps p.tables e below (s₁.setTop (mkF m 0 #[.val (.ref a1), .val (.ref a2), .unset] [])) _
      refine XS.aloadN X0.here hx rfl (hb hby d14_0) rfl rfl ?_
      refine XS.aloadN X0.here hx rfl (hb hby d14_1) rfl rfl ?_
      refine Jvm.RoadKit.acmp (g := (mkF m 2 #[.val (.ref a1), .val (.ref a2), .unset] [(.ref a2), (.ref a1)])) X0 hx rfl rfl rfl (pc0 := 2) (pc' := 7) (same := false) rfl (hb hby d14_2) rfl (decide_eq_false fun q => hne (Value.ref.inj q)) (by decide) (by decide) ?_
      refine XS.aloadN X0.here hx rfl (hb hby d14_7) rfl rfl ?_
      show Steps _ _ _ (s₁.setTop (mkF m 8 #[.val (.ref a1), .val (.ref a2), .unset] [(.ref a2)])) _
      refine st1 _ ?_
      refine XS.ifNo X1.here hx rfl (hb hby d14_11) rfl ((if0 _ _).trans (feq (by decide : ¬ ((1 : Int32) = (0 : Int32)))).1) ?_
      refine XS.aloadN X1.here hx rfl (hb hby d14_14) rfl rfl ?_
      refine st2 _ ?_
      show Steps _ _ _ (T2.setTop (mkF m 18 #[.val (.ref a1), .val (.ref a2), .unset] [(.ref a2)])) _
      refine XS.astoreN X2.here hx rfl (hb hby d14_18) rfl rfl (l' := #[.val (.ref a1), .val (.ref a2), .val (.ref a2)]) rfl ?_
      refine st3 _ ?_
      refine XS.ifNo X3.here hx rfl (hb hby d14_22) rfl ((if0 _ _).trans (feq (hcs : ¬ (cs = (0 : Int32)))).1) ?_
      refine XS.aloadN X3.here hx rfl (hb hby d14_25) rfl rfl ?_
      show Steps _ _ _ (T3.setTop (mkF m 26 #[.val (.ref a1), .val (.ref a2), .val (.ref a2)] [(.ref a1)])) _
      refine st4 _ ?_
      refine XS.aloadN X4.here hx rfl (hb hby d14_29) rfl rfl ?_
      refine st5 _ ?_
      refine XS.icmpNo X5.here hx rfl (hb hby d14_33) rfl (teq (rfl : (0 : Int32) = (0 : Int32))).2 ?_
      show Steps _ _ _ (T5.setTop (mkF m 36 #[.val (.ref a1), .val (.ref a2), .val (.ref a2)] [])) _
      refine XS.aloadN X5.here hx rfl (hb hby d14_36) rfl rfl ?_
      refine st6 _ ?_
      refine XS.aloadN X6.here hx rfl (hb hby d14_40) rfl rfl ?_
      refine st7 _ ?_
      show Steps _ _ _ (T7.setTop (mkF m 44 #[.val (.ref a1), .val (.ref a2), .val (.ref a2)] [(.ref b2), (.ref b1)])) _
      refine st8 _ ?_
      refine XS.ifYes X8.here hx rfl (pc0 := 47) (pc' := 54) rfl (hb hby d14_47) rfl ((if0 _ _).trans (teq (h1 : (own_eq u x) = (0 : Int32))).1) (by decide) (by decide) ?_
      refine XS.iconst X8.here hx rfl (hb hby d14_54) ?_
      show Steps _ _ _ (T8.setTop (mkF m 55 #[.val (.ref a1), .val (.ref a2), .val (.ref a2)] [(.int (0 : Int32))])) _
      exact retN X8 hx (t := .boolean) Bd.returns (by simp) (hb hby d14_55) hr
    · show Qown_eqS Z a1 a2 u x cs nb h0 n0 _ T8.heap _
      rw [e8]
      exact ⟨by rw [h1], N8, rfl⟩
theorem d7_0 : decode c7 0 = .ok (.aload_n 0, 1) := by decide +kernel
theorem d7_1 : decode c7 1 = .ok (.invokespecial 1, 3) := by decide +kernel
theorem d7_4 : decode c7 4 = .ok (.return_, 1) := by decide +kernel
theorem pn_java_lang_Record : plainName "java/lang/Record" = true := by first | (simp [plainName, overriddenIn]; done) | decide +kernel
theorem ef_own_rec (m : MethodId) (x0 : Addr) : entryFrame m #[(.ref x0)] 1 = mkF m 0 #[.val (.ref x0)] [] := by first | (simp [entryFrame, mkF, argsToLocals, Value.category]; done) | rfl
def Qown_rec (Z : State) (a1 : Addr) (h0 : Heap) (n0 : Nat) (v : Option Value) (h : Heap) (L : List Loc) : Prop := v = none ∧ Fr n0 L ∧ h = h0
theorem own_rec (l : Launch) (Z : State) (a0 : Array Value) (hw : ∀ d ∈ tables_1, d.before a0 Z = true) (ws : List Jvm.Cond) (a1 : Addr) (h0 : Heap) (n0 : Nat) (Z0 : n0 ≤ h0.size) :
    MetFree l mn28 (head1 (Jvm.Cond.code mn28 jdk_30_method_1_code 1 none :: ws) (⟨1, 0, 0, 12⟩ : Room)) (fun a U => a = #[(.ref a1)] ∧ Z.Warmed39 U.vm ∧ U.heap = h0) (fun _ _ _ _ _ => True) (fun _ U o U' => ∃ v L, o = .returned v ∧ Qown_rec Z a1 h0 n0 v U'.heap L ∧ FrameEnd U o U' L (⟨1, 0, 0, 12⟩ : Room).cells (⟨1, 0, 0, 12⟩ : Room).slots) := by
  refine MetFree.of_bodySF (plainFor_of_name pn_java_lang_Record) hisR ?_
  intro p e s m args below meth c s₁ Bd hml0 hP hK
  obtain ⟨rfl, hZ, hh⟩ := hP
  have hx := Bd.exec
  have hby := Bd.bytes
  have hml : c.maxLocals = 1 := hml0
  have hown : s.vm.findClass "java/lang/Record" = some m.cls := findClass_of_methodNamed Bd.named
  have hnm := (name_of_methodNamed Bd.named Bd.method).1
  have X0 : Stand p l e (⟨1, 0, 0, 12⟩ : Room) s m #[(.ref a1)] below meth c s₁ [] 0 0 := Stand.of_body Bd
  have e0 : s₁.heap = h0 := by rw [← hh, Bd.state]; rfl
  have N0 := Fr.nil n0
  have pre0 : ∀ t, Steps p.tables e below (s₁.setTop (mkF m 0 #[.val (.ref a1)] [])) t → Steps p.tables e below (s₁.setTop (entryFrame m #[(.ref a1)] 1)) t := fun t k => castTop (ef_own_rec m (a1)) k
  obtain ⟨T1, X1, e1, st1⟩ := initO X0 hx hZ hown (wJ hw 37 rfl) (wJ hw 20 rfl) (wJ hw 21 rfl) e0 (g := (mkF m 1 #[.val (.ref a1)] [(.ref a1)])) rfl (by rw [hml]; rfl) rfl (hb hby d7_1) (by decide) (W := 0) (by show 2 * 0 + _ ≤ _; exact Nat.le_of_eq rfl) (by decide)
  obtain ⟨fs, hr, hrun, hended, hW, hsame⟩ := X1.leave (v := none) (fun _ => rfl)
  refine ⟨_, _, pre0 _ ?_, hrun, hended, _, _, rfl, ?_, ⟨_, rfl⟩, hW, hsame.mono (by decide) (by decide)⟩
  · show Steps p.tables e below (s₁.setTop (mkF m 0 #[.val (.ref a1)] [])) _
    refine XS.aloadN X0.here hx rfl (hb hby d7_0) rfl rfl ?_
    refine st1 _ ?_
    show Steps _ _ _ (T1.setTop (mkF m 4 #[.val (.ref a1)] [])) _
    exact X1.returnOut hx Bd.returns (hb hby d7_4) hr
  · show Qown_rec Z a1 h0 n0 _ T1.heap _
    rw [e1]
    exact ⟨rfl, N0, rfl⟩
theorem d6_0 : decode c6 0 = .ok (.aload_n 0, 1) := by decide +kernel
theorem d6_1 : decode c6 1 = .ok (.invokespecial 1, 3) := by decide +kernel
theorem pd___V : parseMethodDescriptor "()V" = some ⟨[], none⟩ := by decide +kernel
theorem d6_4 : decode c6 4 = .ok (.aload_n 0, 1) := by decide +kernel
theorem d6_5 : decode c6 5 = .ok (.lload_n 1, 1) := by decide +kernel
theorem d6_6 : decode c6 6 = .ok (.putfield 7, 3) := by decide +kernel
theorem d6_9 : decode c6 9 = .ok (.aload_n 0, 1) := by decide +kernel
theorem d6_10 : decode c6 10 = .ok (.lload_n 3, 1) := by decide +kernel
theorem d6_11 : decode c6 11 = .ok (.putfield 13, 3) := by decide +kernel
theorem d6_14 : decode c6 14 = .ok (.aload_n 0, 1) := by decide +kernel
theorem d6_15 : decode c6 15 = .ok (.lload 5, 2) := by decide +kernel
theorem d6_17 : decode c6 17 = .ok (.putfield 16, 3) := by decide +kernel
theorem d6_20 : decode c6 20 = .ok (.aload_n 0, 1) := by decide +kernel
theorem d6_21 : decode c6 21 = .ok (.iload 7, 2) := by decide +kernel
theorem d6_23 : decode c6 23 = .ok (.putfield 19, 3) := by decide +kernel
theorem d6_26 : decode c6 26 = .ok (.aload_n 0, 1) := by decide +kernel
theorem d6_27 : decode c6 27 = .ok (.aload 8, 2) := by decide +kernel
theorem d6_29 : decode c6 29 = .ok (.putfield 23, 3) := by decide +kernel
theorem d6_32 : decode c6 32 = .ok (.aload_n 0, 1) := by decide +kernel
theorem d6_33 : decode c6 33 = .ok (.iload 9, 2) := by decide +kernel
theorem d6_35 : decode c6 35 = .ok (.putfield 27, 3) := by decide +kernel
theorem d6_38 : decode c6 38 = .ok (.aload_n 0, 1) := by decide +kernel
theorem d6_39 : decode c6 39 = .ok (.iload 10, 2) := by decide +kernel
theorem d6_41 : decode c6 41 = .ok (.putfield 31, 3) := by decide +kernel
theorem d6_44 : decode c6 44 = .ok (.aload_n 0, 1) := by decide +kernel
theorem d6_45 : decode c6 45 = .ok (.aload 11, 2) := by decide +kernel
theorem d6_47 : decode c6 47 = .ok (.putfield 34, 3) := by decide +kernel
theorem d6_50 : decode c6 50 = .ok (.return_, 1) := by decide +kernel
theorem pn_com_example_hemotide_hemotide_link_Frame : plainName "com/example/hemotide/hemotide/link/Frame" = true := by first | (simp [plainName, overriddenIn]; done) | decide +kernel
theorem ef_own_fri (m : MethodId) (x0 : Addr) (x1 : Int64) (x2 : Int64) (x3 : Int64) (x4 : Int32) (x5 : Addr) (x6 : Int32) (x7 : Int32) (x8 : Value) (hr8 : x8.isRef = true) : entryFrame m #[(.ref x0), (.long x1), (.long x2), (.long x3), (.int x4), (.ref x5), (.int x6), (.int x7), x8] 12 = mkF m 0 #[.val (.ref x0), .val (.long x1), .second, .val (.long x2), .second, .val (.long x3), .second, .val (.int x4), .val (.ref x5), .val (.int x6), .val (.int x7), .val x8] [] := by
  rcases ref_cases hr8 with rfl | ⟨_, rfl⟩
  all_goals (first | (simp [entryFrame, mkF, argsToLocals, Value.category]; done) | rfl)
def Qown_fri (Z : State) (a1 : Addr) (q1 : Int64) (q2 : Int64) (q3 : Int64) (p4 : Int32) (a5 : Addr) (p6 : Int32) (p7 : Int32) (dv : Value) (h0 : Heap) (n0 : Nat) (v : Option Value) (h : Heap) (L : List Loc) : Prop := v = none ∧ Fr n0 L ∧ Keep h0 h [a1] ∧ Fld Z h a1 "com/example/hemotide/hemotide/link/Frame" "position" "J" (.long q1) ∧ Fld Z h a1 "com/example/hemotide/hemotide/link/Frame" "offset" "J" (.long q2) ∧ Fld Z h a1 "com/example/hemotide/hemotide/link/Frame" "end" "J" (.long q3) ∧ Fld Z h a1 "com/example/hemotide/hemotide/link/Frame" "number" "I" (.int p4) ∧ Fld Z h a1 "com/example/hemotide/hemotide/link/Frame" "text" "Ljava/lang/String;" (.ref a5) ∧ Fld Z h a1 "com/example/hemotide/hemotide/link/Frame" "endsRecord" "Z" (.int p6) ∧ Fld Z h a1 "com/example/hemotide/hemotide/link/Frame" "complete" "Z" (.int p7) ∧ Fld Z h a1 "com/example/hemotide/hemotide/link/Frame" "defect" "Ljava/lang/String;" dv
theorem own_fri (l : Launch) (Z : State) (a0 : Array Value) (hw : ∀ d ∈ tables_1, d.before a0 Z = true) (ws : List Jvm.Cond) (a1 : Addr) (q1 : Int64) (q2 : Int64) (q3 : Int64) (p4 : Int32) (a5 : Addr) (p6 : Int32) (p7 : Int32) (dv : Value) (h0 : Heap) (n0 : Nat) (Z0 : n0 ≤ h0.size) (F0 : Fld Z h0 a1 "com/example/hemotide/hemotide/link/Frame" "position" "J" (.long (0 : Int64))) (F1 : Fld Z h0 a1 "com/example/hemotide/hemotide/link/Frame" "offset" "J" (.long (0 : Int64))) (F2 : Fld Z h0 a1 "com/example/hemotide/hemotide/link/Frame" "end" "J" (.long (0 : Int64))) (F3 : Fld Z h0 a1 "com/example/hemotide/hemotide/link/Frame" "number" "I" (.int (0 : Int32))) (F4 : Fld Z h0 a1 "com/example/hemotide/hemotide/link/Frame" "text" "Ljava/lang/String;" .null) (F5 : Fld Z h0 a1 "com/example/hemotide/hemotide/link/Frame" "endsRecord" "Z" (.int (0 : Int32))) (F6 : Fld Z h0 a1 "com/example/hemotide/hemotide/link/Frame" "complete" "Z" (.int (0 : Int32))) (F7 : Fld Z h0 a1 "com/example/hemotide/hemotide/link/Frame" "defect" "Ljava/lang/String;" .null) (E1 : Exa Z h0 a1 "com/example/hemotide/hemotide/link/Frame") (g_a1 : n0 ≤ a1) (z6 : p6 = (0 : Int32) ∨ p6 = (1 : Int32)) (z7 : p7 = (0 : Int32) ∨ p7 = (1 : Int32)) (hdv : dv.isRef = true) :
    MetFree l mn1 (head1 (Jvm.Cond.code mn1 prog_22_method_1_code 12 none :: ws) (⟨2, 0, 0, 24⟩ : Room)) (fun a U => a = #[(.ref a1), (.long q1), (.long q2), (.long q3), (.int p4), (.ref a5), (.int p6), (.int p7), dv] ∧ Z.Warmed39 U.vm ∧ U.heap = h0) (fun _ _ _ _ _ => True) (fun _ U o U' => ∃ v L, o = .returned v ∧ Qown_fri Z a1 q1 q2 q3 p4 a5 p6 p7 dv h0 n0 v U'.heap L ∧ FrameEnd U o U' L (⟨2, 0, 0, 24⟩ : Room).cells (⟨2, 0, 0, 24⟩ : Room).slots) := by
  refine MetFree.of_bodySF (plainFor_of_name pn_com_example_hemotide_hemotide_link_Frame) hisR ?_
  intro p e s m args below meth c s₁ Bd hml0 hP hK
  obtain ⟨rfl, hZ, hh⟩ := hP
  have hx := Bd.exec
  have hby := Bd.bytes
  have hml : c.maxLocals = 12 := hml0
  have hown : s.vm.findClass "com/example/hemotide/hemotide/link/Frame" = some m.cls := findClass_of_methodNamed Bd.named
  have hnm := (name_of_methodNamed Bd.named Bd.method).1
  have X0 : Stand p l e (⟨2, 0, 0, 24⟩ : Room) s m #[(.ref a1), (.long q1), (.long q2), (.long q3), (.int p4), (.ref a5), (.int p6), (.int p7), dv] below meth c s₁ [] 0 0 := Stand.of_body Bd
  have e0 : s₁.heap = h0 := by rw [← hh, Bd.state]; rfl
  have N0 := Fr.nil n0
  have pre0 : ∀ t, Steps p.tables e below (s₁.setTop (mkF m 0 #[.val (.ref a1), .val (.long q1), .second, .val (.long q2), .second, .val (.long q3), .second, .val (.int p4), .val (.ref a5), .val (.int p6), .val (.int p7), .val dv] [])) t → Steps p.tables e below (s₁.setTop (entryFrame m #[(.ref a1), (.long q1), (.long q2), (.long q3), (.int p4), (.ref a5), (.int p6), (.int p7), dv] 12)) t := fun t k => castTop (ef_own_fri m (a1) (q1) (q2) (q3) (p4) (a5) (p6) (p7) (dv) hdv) k
  obtain ⟨_, _, ⟨T1, L1, k1, n1⟩, -, X1, ⟨Lc1, hQ1, l1, y1, z1⟩, st1⟩ := X0.specialBack hx (y := mn28) rfl hown (mvT hZ (wJ hw 32 rfl)) (mvT hZ (wJ hw 33 rfl)) (mvT hZ (wJ hw 36 rfl)) (by decide) (backOf (W := 0) (own_rec l Z a0 hw [] a1  h0 n0 Z0 ) hZ (wJ hw 36 rfl) (wJ hw 35 rfl) (by decide) (by decide)) (g := (mkF m 1 #[.val (.ref a1), .val (.long q1), .second, .val (.long q2), .second, .val (.long q3), .second, .val (.int p4), .val (.ref a5), .val (.int p6), .val (.int p7), .val dv] [(.ref a1)])) rfl (by rw [hml]; rfl) (Steps.refl _) (a := a1) (argsL := []) (rest := []) (lenOf pd___V rfl) rfl (by show 2 * 0 + _ ≤ _; exact Nat.le_of_eq rfl) (hb hby d6_1) (fun _ _ => ⟨rfl, e0, (by decide : 0 + 0 ≤ _), (by decide : 0 + 0 ≤ _)⟩)
  dsimp only [Pt.U, Pt.locs, Pt.cells, Pt.slots] at X1 l1 y1 z1 st1 hQ1
  replace X1 := X1.more (Nat.le_of_eq (show k1 = 0 from y1)) (Nat.le_of_eq (show n1 = 0 from z1))
  obtain ⟨rfl, Nq1, e1⟩ := hQ1
  have N1 : Fr n0 L1 := by rw [l1]; exact Fr.app N0 Nq1
  obtain ⟨T2, h2, X2, e2, W2, st2⟩ := putF X1 hx hZ hown (host := "") (Or.inl (wJ hw 38 rfl)) Via.refl e1 F0 E1 (Or.inr ⟨(wJ hw 39 rfl), rfl, hnm⟩) (wJ hw 27 rfl) (ty := .long) (by decide) rfl rfl (g := (mkF m 6 #[.val (.ref a1), .val (.long q1), .second, .val (.long q2), .second, .val (.long q3), .second, .val (.int p4), .val (.ref a5), .val (.int p6), .val (.int p7), .val dv] [(.long q1), (.ref a1)])) rfl rfl (hb hby d6_6)
  have Fw2 := F0.same W2
  have K2 : Keep h0 h2 [a1] := (Keep.refl h0 [a1]).wr W2 (Or.inl (wI 0 rfl))
  have N2 := Fr.snoc X2 N1 g_a1
  have Z2 : n0 ≤ h2.size := Nat.le_trans Z0 (Keep.of_wr W2).1
  have fc4 := (F1.other W2 (Or.inr (slot_ne (Or.inr (wJ hw 41 rfl)) (Or.inr (wJ hw 39 rfl)) (by decide) (t := .long) (t' := .long) (by decide) (by decide))))
  have fc5 := (E1.wr W2)
  obtain ⟨T3, h3, X3, e3, W3, st3⟩ := putF X2 hx hZ hown (host := "") (Or.inl (wJ hw 40 rfl)) Via.refl e2 fc4 fc5 (Or.inr ⟨(wJ hw 41 rfl), rfl, hnm⟩) (wJ hw 27 rfl) (ty := .long) (by decide) rfl rfl (g := (mkF m 11 #[.val (.ref a1), .val (.long q1), .second, .val (.long q2), .second, .val (.long q3), .second, .val (.int p4), .val (.ref a5), .val (.int p6), .val (.int p7), .val dv] [(.long q2), (.ref a1)])) rfl rfl (hb hby d6_11)
  have Fw3 := fc4.same W3
  have K3 : Keep h0 h3 [a1] := K2.wr W3 (Or.inl (wI 0 rfl))
  have N3 := Fr.snoc X3 N2 g_a1
  have Z3 : n0 ≤ h3.size := Nat.le_trans Z2 (Keep.of_wr W3).1
  have fc7 := ((F2.other W2 (Or.inr (slot_ne (Or.inr (wJ hw 43 rfl)) (Or.inr (wJ hw 39 rfl)) (by decide) (t := .long) (t' := .long) (by decide) (by decide)))).other W3 (Or.inr (slot_ne (Or.inr (wJ hw 43 rfl)) (Or.inr (wJ hw 41 rfl)) (by decide) (t := .long) (t' := .long) (by decide) (by decide))))
  have fc8 := (fc5.wr W3)
  obtain ⟨T6, h6, X6, e6, W6, st6⟩ := putF X3 hx hZ hown (host := "") (Or.inl (wJ hw 42 rfl)) Via.refl e3 fc7 fc8 (Or.inr ⟨(wJ hw 43 rfl), rfl, hnm⟩) (wJ hw 27 rfl) (ty := .long) (by decide) rfl rfl (g := (mkF m 17 #[.val (.ref a1), .val (.long q1), .second, .val (.long q2), .second, .val (.long q3), .second, .val (.int p4), .val (.ref a5), .val (.int p6), .val (.int p7), .val dv] [(.long q3), (.ref a1)])) rfl rfl (hb hby d6_17)
  have Fw6 := fc7.same W6
  have K6 : Keep h0 h6 [a1] := K3.wr W6 (Or.inl (wI 0 rfl))
  have N6 := Fr.snoc X6 N3 g_a1
  have Z6 : n0 ≤ h6.size := Nat.le_trans Z3 (Keep.of_wr W6).1
  have fc10 := (((F3.other W2 (Or.inr (slot_ne (Or.inr (wJ hw 45 rfl)) (Or.inr (wJ hw 39 rfl)) (by decide) (t := .int) (t' := .long) (by decide) (by decide)))).other W3 (Or.inr (slot_ne (Or.inr (wJ hw 45 rfl)) (Or.inr (wJ hw 41 rfl)) (by decide) (t := .int) (t' := .long) (by decide) (by decide)))).other W6 (Or.inr (slot_ne (Or.inr (wJ hw 45 rfl)) (Or.inr (wJ hw 43 rfl)) (by decide) (t := .int) (t' := .long) (by decide) (by decide))))
  have fc11 := (fc8.wr W6)
  obtain ⟨T9, h9, X9, e9, W9, st9⟩ := putF X6 hx hZ hown (host := "") (Or.inl (wJ hw 44 rfl)) Via.refl e6 fc10 fc11 (Or.inr ⟨(wJ hw 45 rfl), rfl, hnm⟩) (wJ hw 27 rfl) (ty := .int) (by decide) rfl rfl (g := (mkF m 23 #[.val (.ref a1), .val (.long q1), .second, .val (.long q2), .second, .val (.long q3), .second, .val (.int p4), .val (.ref a5), .val (.int p6), .val (.int p7), .val dv] [(.int p4), (.ref a1)])) rfl rfl (hb hby d6_23)
  have Fw9 := fc10.same W9
  have K9 : Keep h0 h9 [a1] := K6.wr W9 (Or.inl (wI 0 rfl))
  have N9 := Fr.snoc X9 N6 g_a1
  have Z9 : n0 ≤ h9.size := Nat.le_trans Z6 (Keep.of_wr W9).1
  have fc13 := ((((F4.other W2 (Or.inr (slot_ne (Or.inr (wJ hw 47 rfl)) (Or.inr (wJ hw 39 rfl)) (by decide) (t := (.object "java/lang/String")) (t' := .long) (by decide) (by decide)))).other W3 (Or.inr (slot_ne (Or.inr (wJ hw 47 rfl)) (Or.inr (wJ hw 41 rfl)) (by decide) (t := (.object "java/lang/String")) (t' := .long) (by decide) (by decide)))).other W6 (Or.inr (slot_ne (Or.inr (wJ hw 47 rfl)) (Or.inr (wJ hw 43 rfl)) (by decide) (t := (.object "java/lang/String")) (t' := .long) (by decide) (by decide)))).other W9 (Or.inr (slot_ne (Or.inr (wJ hw 47 rfl)) (Or.inr (wJ hw 45 rfl)) (by decide) (t := (.object "java/lang/String")) (t' := .int) (by decide) (by decide))))
  have fc14 := (fc11.wr W9)
  obtain ⟨T12, h12, X12, e12, W12, st12⟩ := putF X9 hx hZ hown (host := "") (Or.inl (wJ hw 46 rfl)) Via.refl e9 fc13 fc14 (Or.inr ⟨(wJ hw 47 rfl), rfl, hnm⟩) (wJ hw 27 rfl) (ty := (.object "java/lang/String")) (by decide) rfl rfl (g := (mkF m 29 #[.val (.ref a1), .val (.long q1), .second, .val (.long q2), .second, .val (.long q3), .second, .val (.int p4), .val (.ref a5), .val (.int p6), .val (.int p7), .val dv] [(.ref a5), (.ref a1)])) rfl rfl (hb hby d6_29)
  have Fw12 := fc13.same W12
  have K12 : Keep h0 h12 [a1] := K9.wr W12 (Or.inl (wI 0 rfl))
  have N12 := Fr.snoc X12 N9 g_a1
  have Z12 : n0 ≤ h12.size := Nat.le_trans Z9 (Keep.of_wr W12).1
  have fc16 := (((((F5.other W2 (Or.inr (slot_ne (Or.inr (wJ hw 49 rfl)) (Or.inr (wJ hw 39 rfl)) (by decide) (t := .boolean) (t' := .long) (by decide) (by decide)))).other W3 (Or.inr (slot_ne (Or.inr (wJ hw 49 rfl)) (Or.inr (wJ hw 41 rfl)) (by decide) (t := .boolean) (t' := .long) (by decide) (by decide)))).other W6 (Or.inr (slot_ne (Or.inr (wJ hw 49 rfl)) (Or.inr (wJ hw 43 rfl)) (by decide) (t := .boolean) (t' := .long) (by decide) (by decide)))).other W9 (Or.inr (slot_ne (Or.inr (wJ hw 49 rfl)) (Or.inr (wJ hw 45 rfl)) (by decide) (t := .boolean) (t' := .int) (by decide) (by decide)))).other W12 (Or.inr (slot_ne (Or.inr (wJ hw 49 rfl)) (Or.inr (wJ hw 47 rfl)) (by decide) (t := .boolean) (t' := (.object "java/lang/String")) (by decide) (by decide))))
  have fc17 := (fc14.wr W12)
  obtain ⟨T15, h15, X15, e15, W15, st15⟩ := putFN X12 hx hZ hown (wJ hw 48 rfl) Via.refl e12 fc16 fc17 (Or.inr ⟨(wJ hw 49 rfl), rfl, hnm⟩) (wJ hw 27 rfl) (ty := .boolean) (v' := (.int p6)) (by decide) (own_nz z6) (own_fz z6) (g := (mkF m 35 #[.val (.ref a1), .val (.long q1), .second, .val (.long q2), .second, .val (.long q3), .second, .val (.int p4), .val (.ref a5), .val (.int p6), .val (.int p7), .val dv] [(.int p6), (.ref a1)])) rfl rfl (hb hby d6_35)
  have Fw15 := fc16.same W15
  have K15 : Keep h0 h15 [a1] := K12.wr W15 (Or.inl (wI 0 rfl))
  have N15 := Fr.snoc X15 N12 g_a1
  have Z15 : n0 ≤ h15.size := Nat.le_trans Z12 (Keep.of_wr W15).1
  have fc19 := ((((((F6.other W2 (Or.inr (slot_ne (Or.inr (wJ hw 51 rfl)) (Or.inr (wJ hw 39 rfl)) (by decide) (t := .boolean) (t' := .long) (by decide) (by decide)))).other W3 (Or.inr (slot_ne (Or.inr (wJ hw 51 rfl)) (Or.inr (wJ hw 41 rfl)) (by decide) (t := .boolean) (t' := .long) (by decide) (by decide)))).other W6 (Or.inr (slot_ne (Or.inr (wJ hw 51 rfl)) (Or.inr (wJ hw 43 rfl)) (by decide) (t := .boolean) (t' := .long) (by decide) (by decide)))).other W9 (Or.inr (slot_ne (Or.inr (wJ hw 51 rfl)) (Or.inr (wJ hw 45 rfl)) (by decide) (t := .boolean) (t' := .int) (by decide) (by decide)))).other W12 (Or.inr (slot_ne (Or.inr (wJ hw 51 rfl)) (Or.inr (wJ hw 47 rfl)) (by decide) (t := .boolean) (t' := (.object "java/lang/String")) (by decide) (by decide)))).other W15 (Or.inr (slot_ne (Or.inr (wJ hw 51 rfl)) (Or.inr (wJ hw 49 rfl)) (by decide) (t := .boolean) (t' := .boolean) (by decide) (by decide))))
  have fc20 := (fc17.wr W15)
  obtain ⟨T18, h18, X18, e18, W18, st18⟩ := putFN X15 hx hZ hown (wJ hw 50 rfl) Via.refl e15 fc19 fc20 (Or.inr ⟨(wJ hw 51 rfl), rfl, hnm⟩) (wJ hw 27 rfl) (ty := .boolean) (v' := (.int p7)) (by decide) (own_nz z7) (own_fz z7) (g := (mkF m 41 #[.val (.ref a1), .val (.long q1), .second, .val (.long q2), .second, .val (.long q3), .second, .val (.int p4), .val (.ref a5), .val (.int p6), .val (.int p7), .val dv] [(.int p7), (.ref a1)])) rfl rfl (hb hby d6_41)
  have Fw18 := fc19.same W18
  have K18 : Keep h0 h18 [a1] := K15.wr W18 (Or.inl (wI 0 rfl))
  have N18 := Fr.snoc X18 N15 g_a1
  have Z18 : n0 ≤ h18.size := Nat.le_trans Z15 (Keep.of_wr W18).1
  have fc22 := (((((((F7.other W2 (Or.inr (slot_ne (Or.inr (wJ hw 53 rfl)) (Or.inr (wJ hw 39 rfl)) (by decide) (t := (.object "java/lang/String")) (t' := .long) (by decide) (by decide)))).other W3 (Or.inr (slot_ne (Or.inr (wJ hw 53 rfl)) (Or.inr (wJ hw 41 rfl)) (by decide) (t := (.object "java/lang/String")) (t' := .long) (by decide) (by decide)))).other W6 (Or.inr (slot_ne (Or.inr (wJ hw 53 rfl)) (Or.inr (wJ hw 43 rfl)) (by decide) (t := (.object "java/lang/String")) (t' := .long) (by decide) (by decide)))).other W9 (Or.inr (slot_ne (Or.inr (wJ hw 53 rfl)) (Or.inr (wJ hw 45 rfl)) (by decide) (t := (.object "java/lang/String")) (t' := .int) (by decide) (by decide)))).other W12 (Or.inr (slot_ne (Or.inr (wJ hw 53 rfl)) (Or.inr (wJ hw 47 rfl)) (by decide) (t := (.object "java/lang/String")) (t' := (.object "java/lang/String")) (by decide) (by decide)))).other W15 (Or.inr (slot_ne (Or.inr (wJ hw 53 rfl)) (Or.inr (wJ hw 49 rfl)) (by decide) (t := (.object "java/lang/String")) (t' := .boolean) (by decide) (by decide)))).other W18 (Or.inr (slot_ne (Or.inr (wJ hw 53 rfl)) (Or.inr (wJ hw 51 rfl)) (by decide) (t := (.object "java/lang/String")) (t' := .boolean) (by decide) (by decide))))
  have fc23 := (fc20.wr W18)
  obtain ⟨T21, h21, X21, e21, W21, st21⟩ := putF X18 hx hZ hown (host := "") (Or.inl (wJ hw 52 rfl)) Via.refl e18 fc22 fc23 (Or.inr ⟨(wJ hw 53 rfl), rfl, hnm⟩) (wJ hw 27 rfl) (ty := (.object "java/lang/String")) (by decide) (own_nr hdv) (own_fr hdv) (g := (mkF m 47 #[.val (.ref a1), .val (.long q1), .second, .val (.long q2), .second, .val (.long q3), .second, .val (.int p4), .val (.ref a5), .val (.int p6), .val (.int p7), .val dv] [dv, (.ref a1)])) rfl rfl (hb hby d6_47)
  have Fw21 := fc22.same W21
  have K21 : Keep h0 h21 [a1] := K18.wr W21 (Or.inl (wI 0 rfl))
  have N21 := Fr.snoc X21 N18 g_a1
  have Z21 : n0 ≤ h21.size := Nat.le_trans Z18 (Keep.of_wr W21).1
  have fc24 := (((((((Fw2.other W3 (Or.inr (slot_ne (Or.inr (wJ hw 39 rfl)) (Or.inr (wJ hw 41 rfl)) (by decide) (t := .long) (t' := .long) (by decide) (by decide)))).other W6 (Or.inr (slot_ne (Or.inr (wJ hw 39 rfl)) (Or.inr (wJ hw 43 rfl)) (by decide) (t := .long) (t' := .long) (by decide) (by decide)))).other W9 (Or.inr (slot_ne (Or.inr (wJ hw 39 rfl)) (Or.inr (wJ hw 45 rfl)) (by decide) (t := .long) (t' := .int) (by decide) (by decide)))).other W12 (Or.inr (slot_ne (Or.inr (wJ hw 39 rfl)) (Or.inr (wJ hw 47 rfl)) (by decide) (t := .long) (t' := (.object "java/lang/String")) (by decide) (by decide)))).other W15 (Or.inr (slot_ne (Or.inr (wJ hw 39 rfl)) (Or.inr (wJ hw 49 rfl)) (by decide) (t := .long) (t' := .boolean) (by decide) (by decide)))).other W18 (Or.inr (slot_ne (Or.inr (wJ hw 39 rfl)) (Or.inr (wJ hw 51 rfl)) (by decide) (t := .long) (t' := .boolean) (by decide) (by decide)))).other W21 (Or.inr (slot_ne (Or.inr (wJ hw 39 rfl)) (Or.inr (wJ hw 53 rfl)) (by decide) (t := .long) (t' := (.object "java/lang/String")) (by decide) (by decide))))
  have fc25 := ((((((Fw3.other W6 (Or.inr (slot_ne (Or.inr (wJ hw 41 rfl)) (Or.inr (wJ hw 43 rfl)) (by decide) (t := .long) (t' := .long) (by decide) (by decide)))).other W9 (Or.inr (slot_ne (Or.inr (wJ hw 41 rfl)) (Or.inr (wJ hw 45 rfl)) (by decide) (t := .long) (t' := .int) (by decide) (by decide)))).other W12 (Or.inr (slot_ne (Or.inr (wJ hw 41 rfl)) (Or.inr (wJ hw 47 rfl)) (by decide) (t := .long) (t' := (.object "java/lang/String")) (by decide) (by decide)))).other W15 (Or.inr (slot_ne (Or.inr (wJ hw 41 rfl)) (Or.inr (wJ hw 49 rfl)) (by decide) (t := .long) (t' := .boolean) (by decide) (by decide)))).other W18 (Or.inr (slot_ne (Or.inr (wJ hw 41 rfl)) (Or.inr (wJ hw 51 rfl)) (by decide) (t := .long) (t' := .boolean) (by decide) (by decide)))).other W21 (Or.inr (slot_ne (Or.inr (wJ hw 41 rfl)) (Or.inr (wJ hw 53 rfl)) (by decide) (t := .long) (t' := (.object "java/lang/String")) (by decide) (by decide))))
  have fc26 := (((((Fw6.other W9 (Or.inr (slot_ne (Or.inr (wJ hw 43 rfl)) (Or.inr (wJ hw 45 rfl)) (by decide) (t := .long) (t' := .int) (by decide) (by decide)))).other W12 (Or.inr (slot_ne (Or.inr (wJ hw 43 rfl)) (Or.inr (wJ hw 47 rfl)) (by decide) (t := .long) (t' := (.object "java/lang/String")) (by decide) (by decide)))).other W15 (Or.inr (slot_ne (Or.inr (wJ hw 43 rfl)) (Or.inr (wJ hw 49 rfl)) (by decide) (t := .long) (t' := .boolean) (by decide) (by decide)))).other W18 (Or.inr (slot_ne (Or.inr (wJ hw 43 rfl)) (Or.inr (wJ hw 51 rfl)) (by decide) (t := .long) (t' := .boolean) (by decide) (by decide)))).other W21 (Or.inr (slot_ne (Or.inr (wJ hw 43 rfl)) (Or.inr (wJ hw 53 rfl)) (by decide) (t := .long) (t' := (.object "java/lang/String")) (by decide) (by decide))))
  have fc27 := ((((Fw9.other W12 (Or.inr (slot_ne (Or.inr (wJ hw 45 rfl)) (Or.inr (wJ hw 47 rfl)) (by decide) (t := .int) (t' := (.object "java/lang/String")) (by decide) (by decide)))).other W15 (Or.inr (slot_ne (Or.inr (wJ hw 45 rfl)) (Or.inr (wJ hw 49 rfl)) (by decide) (t := .int) (t' := .boolean) (by decide) (by decide)))).other W18 (Or.inr (slot_ne (Or.inr (wJ hw 45 rfl)) (Or.inr (wJ hw 51 rfl)) (by decide) (t := .int) (t' := .boolean) (by decide) (by decide)))).other W21 (Or.inr (slot_ne (Or.inr (wJ hw 45 rfl)) (Or.inr (wJ hw 53 rfl)) (by decide) (t := .int) (t' := (.object "java/lang/String")) (by decide) (by decide))))
  have fc28 := (((Fw12.other W15 (Or.inr (slot_ne (Or.inr (wJ hw 47 rfl)) (Or.inr (wJ hw 49 rfl)) (by decide) (t := (.object "java/lang/String")) (t' := .boolean) (by decide) (by decide)))).other W18 (Or.inr (slot_ne (Or.inr (wJ hw 47 rfl)) (Or.inr (wJ hw 51 rfl)) (by decide) (t := (.object "java/lang/String")) (t' := .boolean) (by decide) (by decide)))).other W21 (Or.inr (slot_ne (Or.inr (wJ hw 47 rfl)) (Or.inr (wJ hw 53 rfl)) (by decide) (t := (.object "java/lang/String")) (t' := (.object "java/lang/String")) (by decide) (by decide))))
  have fc29 := ((Fw15.other W18 (Or.inr (slot_ne (Or.inr (wJ hw 49 rfl)) (Or.inr (wJ hw 51 rfl)) (by decide) (t := .boolean) (t' := .boolean) (by decide) (by decide)))).other W21 (Or.inr (slot_ne (Or.inr (wJ hw 49 rfl)) (Or.inr (wJ hw 53 rfl)) (by decide) (t := .boolean) (t' := (.object "java/lang/String")) (by decide) (by decide))))
  have fc30 := (Fw18.other W21 (Or.inr (slot_ne (Or.inr (wJ hw 51 rfl)) (Or.inr (wJ hw 53 rfl)) (by decide) (t := .boolean) (t' := (.object "java/lang/String")) (by decide) (by decide))))
  obtain ⟨fs, hr, hrun, hended, hW, hsame⟩ := X21.leave (v := none) (fun _ => rfl)
  refine ⟨_, _, pre0 _ ?_, hrun, hended, _, _, rfl, ?_, ⟨_, rfl⟩, hW, hsame.mono (by decide) (by decide)⟩
  · show Steps p.tables e below (s₁.setTop (mkF m 0 #[.val (.ref a1), .val (.long q1), .second, .val (.long q2), .second, .val (.long q3), .second, .val (.int p4), .val (.ref a5), .val (.int p6), .val (.int p7), .val dv] [])) _
    refine XS.aloadN X0.here hx rfl (hb hby d6_0) rfl rfl ?_
    refine st1.trans ?_
    refine XS.aloadN X1.here hx rfl (hb hby d6_4) rfl rfl ?_
    refine XS.lloadN X1.here hx rfl (hb hby d6_5) rfl ?_
    show Steps _ _ _ (T1.setTop (mkF m 6 #[.val (.ref a1), .val (.long q1), .second, .val (.long q2), .second, .val (.long q3), .second, .val (.int p4), .val (.ref a5), .val (.int p6), .val (.int p7), .val dv] [(.long q1), (.ref a1)])) _
    refine st2 _ ?_
    refine XS.aloadN X2.here hx rfl (hb hby d6_9) rfl rfl ?_
    refine XS.lloadN X2.here hx rfl (hb hby d6_10) rfl ?_
    refine st3 _ ?_
    show Steps _ _ _ (T3.setTop (mkF m 14 #[.val (.ref a1), .val (.long q1), .second, .val (.long q2), .second, .val (.long q3), .second, .val (.int p4), .val (.ref a5), .val (.int p6), .val (.int p7), .val dv] [])) _
    refine XS.aloadN X3.here hx rfl (hb hby d6_14) rfl rfl ?_
    refine XS.lload X3.here hx rfl (hb hby d6_15) rfl ?_
    refine st6 _ ?_
    refine XS.aloadN X6.here hx rfl (hb hby d6_20) rfl rfl ?_
    show Steps _ _ _ (T6.setTop (mkF m 21 #[.val (.ref a1), .val (.long q1), .second, .val (.long q2), .second, .val (.long q3), .second, .val (.int p4), .val (.ref a5), .val (.int p6), .val (.int p7), .val dv] [(.ref a1)])) _
    refine XS.iload X6.here hx rfl (hb hby d6_21) rfl ?_
    refine st9 _ ?_
    refine XS.aloadN X9.here hx rfl (hb hby d6_26) rfl rfl ?_
    refine XS.aload X9.here hx rfl (hb hby d6_27) rfl rfl ?_
    show Steps _ _ _ (T9.setTop (mkF m 29 #[.val (.ref a1), .val (.long q1), .second, .val (.long q2), .second, .val (.long q3), .second, .val (.int p4), .val (.ref a5), .val (.int p6), .val (.int p7), .val dv] [(.ref a5), (.ref a1)])) _
    refine st12 _ ?_
    refine XS.aloadN X12.here hx rfl (hb hby d6_32) rfl rfl ?_
    refine XS.iload X12.here hx rfl (hb hby d6_33) rfl ?_
    refine st15 _ ?_
    show Steps _ _ _ (T15.setTop (mkF m 38 #[.val (.ref a1), .val (.long q1), .second, .val (.long q2), .second, .val (.long q3), .second, .val (.int p4), .val (.ref a5), .val (.int p6), .val (.int p7), .val dv] [])) _
    refine XS.aloadN X15.here hx rfl (hb hby d6_38) rfl rfl ?_
    refine XS.iload X15.here hx rfl (hb hby d6_39) rfl ?_
    refine st18 _ ?_
    refine XS.aloadN X18.here hx rfl (hb hby d6_44) rfl rfl ?_
    show Steps _ _ _ (T18.setTop (mkF m 45 #[.val (.ref a1), .val (.long q1), .second, .val (.long q2), .second, .val (.long q3), .second, .val (.int p4), .val (.ref a5), .val (.int p6), .val (.int p7), .val dv] [(.ref a1)])) _
    refine XS.aload X18.here hx rfl (hb hby d6_45) rfl hdv ?_
    refine st21 _ ?_
    show Steps _ _ _ (T21.setTop (mkF m 50 #[.val (.ref a1), .val (.long q1), .second, .val (.long q2), .second, .val (.long q3), .second, .val (.int p4), .val (.ref a5), .val (.int p6), .val (.int p7), .val dv] [])) _
    exact X21.returnOut hx Bd.returns (hb hby d6_50) hr
  · show Qown_fri Z a1 q1 q2 q3 p4 a5 p6 p7 dv h0 n0 _ T21.heap _
    rw [e21]
    exact ⟨rfl, N21, K21, fc24, fc25, fc26, fc27, fc28, fc29, fc30, Fw21⟩
theorem d13_0 : decode c13 0 = .ok (.aload_n 0, 1) := by decide +kernel
theorem d13_1 : decode c13 1 = .ok (.getfield 34, 3) := by decide +kernel
theorem d13_4 : decode c13 4 = .ok (.areturn, 1) := by decide +kernel
theorem ef_own_fdefect (m : MethodId) (x0 : Addr) : entryFrame m #[(.ref x0)] 1 = mkF m 0 #[.val (.ref x0)] [] := by first | (simp [entryFrame, mkF, argsToLocals, Value.category]; done) | rfl
def Qown_fdefect (Z : State) (a1 : Addr) (x : Value) (h0 : Heap) (n0 : Nat) (v : Option Value) (h : Heap) (L : List Loc) : Prop := v = some x ∧ Fr n0 L ∧ h = h0
theorem own_fdefect (l : Launch) (Z : State) (a0 : Array Value) (hw : ∀ d ∈ tables_1, d.before a0 Z = true) (ws : List Jvm.Cond) (a1 : Addr) (x : Value) (h0 : Heap) (n0 : Nat) (Z0 : n0 ≤ h0.size) (F1 : Fld Z h0 a1 "com/example/hemotide/hemotide/link/Frame" "defect" "Ljava/lang/String;" x) (hrv : x.isRef = true) :
    MetFree l mn2 (head1 (Jvm.Cond.code mn2 prog_22_method_13_code 1 (some (.object "java/lang/String")) :: ws) (⟨0, 0, 0, 0⟩ : Room)) (fun a U => a = #[(.ref a1)] ∧ Z.Warmed39 U.vm ∧ U.heap = h0) (fun _ _ _ _ _ => True) (fun _ U o U' => ∃ v L, o = .returned v ∧ Qown_fdefect Z a1 x h0 n0 v U'.heap L ∧ FrameEnd U o U' L (⟨0, 0, 0, 0⟩ : Room).cells (⟨0, 0, 0, 0⟩ : Room).slots) := by
  refine MetFree.of_bodySF (plainFor_of_name pn_com_example_hemotide_hemotide_link_Frame) hisR ?_
  intro p e s m args below meth c s₁ Bd hml0 hP hK
  obtain ⟨rfl, hZ, hh⟩ := hP
  have hx := Bd.exec
  have hby := Bd.bytes
  have hml : c.maxLocals = 1 := hml0
  have hown : s.vm.findClass "com/example/hemotide/hemotide/link/Frame" = some m.cls := findClass_of_methodNamed Bd.named
  have hnm := (name_of_methodNamed Bd.named Bd.method).1
  have X0 : Stand p l e (⟨0, 0, 0, 0⟩ : Room) s m #[(.ref a1)] below meth c s₁ [] 0 0 := Stand.of_body Bd
  have e0 : s₁.heap = h0 := by rw [← hh, Bd.state]; rfl
  have N0 := Fr.nil n0
  have pre0 : ∀ t, Steps p.tables e below (s₁.setTop (mkF m 0 #[.val (.ref a1)] [])) t → Steps p.tables e below (s₁.setTop (entryFrame m #[(.ref a1)] 1)) t := fun t k => castTop (ef_own_fdefect m (a1)) k
  obtain ⟨T1, X1, e1, st1⟩ := getF X0 hx hZ hown (host := "") (Or.inl (wJ hw 52 rfl)) Via.refl e0 F1 (g := (mkF m 1 #[.val (.ref a1)] [(.ref a1)])) rfl rfl (hb hby d13_1)
  obtain ⟨fs, hr, hrun, hended, hW, hsame⟩ := X1.leave (v := some x) (fun h => by rw [Bd.returns] at h; cases h)
  refine ⟨_, _, pre0 _ ?_, hrun, hended, _, _, rfl, ?_, ⟨_, rfl⟩, hW, hsame.mono (by decide) (by decide)⟩
  · show Steps p.tables e below (s₁.setTop (mkF m 0 #[.val (.ref a1)] [])) _
    refine XS.aloadN X0.here hx rfl (hb hby d13_0) rfl rfl ?_
    refine st1 _ ?_
    show Steps _ _ _ (T1.setTop (mkF m 4 #[.val (.ref a1)] [x])) _
    exact retOut X1 hx Bd.returns (by rcases ref_cases hrv with q | ⟨a, q⟩ <;> rw [q] <;> rfl) (Or.inr (Or.inr (Or.inr (Or.inr ⟨rfl, rfl, hrv⟩)))) (hb hby d13_4) hr
  · show Qown_fdefect Z a1 x h0 n0 _ T1.heap _
    rw [e1]
    exact ⟨rfl, N0, rfl⟩
theorem d17_0 : decode c17 0 = .ok (.aload_n 0, 1) := by decide +kernel
theorem d17_1 : decode c17 1 = .ok (.getfield 19, 3) := by decide +kernel
theorem d17_4 : decode c17 4 = .ok (.ireturn, 1) := by decide +kernel
theorem ef_own_fnumber (m : MethodId) (x0 : Addr) : entryFrame m #[(.ref x0)] 1 = mkF m 0 #[.val (.ref x0)] [] := by first | (simp [entryFrame, mkF, argsToLocals, Value.category]; done) | rfl
def Qown_fnumber (Z : State) (a1 : Addr) (x : Int32) (h0 : Heap) (n0 : Nat) (v : Option Value) (h : Heap) (L : List Loc) : Prop := v = some (.int x) ∧ Fr n0 L ∧ h = h0
theorem own_fnumber (l : Launch) (Z : State) (a0 : Array Value) (hw : ∀ d ∈ tables_1, d.before a0 Z = true) (ws : List Jvm.Cond) (a1 : Addr) (x : Int32) (h0 : Heap) (n0 : Nat) (Z0 : n0 ≤ h0.size) (F1 : Fld Z h0 a1 "com/example/hemotide/hemotide/link/Frame" "number" "I" (.int x)) :
    MetFree l mn5 (head1 (Jvm.Cond.code mn5 prog_22_method_9_code 1 (some .int) :: ws) (⟨0, 0, 0, 0⟩ : Room)) (fun a U => a = #[(.ref a1)] ∧ Z.Warmed39 U.vm ∧ U.heap = h0) (fun _ _ _ _ _ => True) (fun _ U o U' => ∃ v L, o = .returned v ∧ Qown_fnumber Z a1 x h0 n0 v U'.heap L ∧ FrameEnd U o U' L (⟨0, 0, 0, 0⟩ : Room).cells (⟨0, 0, 0, 0⟩ : Room).slots) := by
  refine MetFree.of_bodySF (plainFor_of_name pn_com_example_hemotide_hemotide_link_Frame) hisR ?_
  intro p e s m args below meth c s₁ Bd hml0 hP hK
  obtain ⟨rfl, hZ, hh⟩ := hP
  have hx := Bd.exec
  have hby := Bd.bytes
  have hml : c.maxLocals = 1 := hml0
  have hown : s.vm.findClass "com/example/hemotide/hemotide/link/Frame" = some m.cls := findClass_of_methodNamed Bd.named
  have hnm := (name_of_methodNamed Bd.named Bd.method).1
  have X0 : Stand p l e (⟨0, 0, 0, 0⟩ : Room) s m #[(.ref a1)] below meth c s₁ [] 0 0 := Stand.of_body Bd
  have e0 : s₁.heap = h0 := by rw [← hh, Bd.state]; rfl
  have N0 := Fr.nil n0
  have pre0 : ∀ t, Steps p.tables e below (s₁.setTop (mkF m 0 #[.val (.ref a1)] [])) t → Steps p.tables e below (s₁.setTop (entryFrame m #[(.ref a1)] 1)) t := fun t k => castTop (ef_own_fnumber m (a1)) k
  obtain ⟨T1, X1, e1, st1⟩ := getF X0 hx hZ hown (host := "") (Or.inl (wJ hw 44 rfl)) Via.refl e0 F1 (g := (mkF m 1 #[.val (.ref a1)] [(.ref a1)])) rfl rfl (hb hby d17_1)
  obtain ⟨fs, hr, hrun, hended, hW, hsame⟩ := X1.leave (v := some (.int x)) (fun h => by rw [Bd.returns] at h; cases h)
  refine ⟨_, _, pre0 _ ?_, hrun, hended, _, _, rfl, ?_, ⟨_, rfl⟩, hW, hsame.mono (by decide) (by decide)⟩
  · show Steps p.tables e below (s₁.setTop (mkF m 0 #[.val (.ref a1)] [])) _
    refine XS.aloadN X0.here hx rfl (hb hby d17_0) rfl rfl ?_
    refine st1 _ ?_
    show Steps _ _ _ (T1.setTop (mkF m 4 #[.val (.ref a1)] [(.int x)])) _
    exact retI X1 hx Bd.returns (hb hby d17_4) hr
  · show Qown_fnumber Z a1 x h0 n0 _ T1.heap _
    rw [e1]
    exact ⟨rfl, N0, rfl⟩
theorem d18_0 : decode c18 0 = .ok (.aload_n 0, 1) := by decide +kernel
theorem d18_1 : decode c18 1 = .ok (.getfield 23, 3) := by decide +kernel
theorem d18_4 : decode c18 4 = .ok (.areturn, 1) := by decide +kernel
theorem ef_own_ftext (m : MethodId) (x0 : Addr) : entryFrame m #[(.ref x0)] 1 = mkF m 0 #[.val (.ref x0)] [] := by first | (simp [entryFrame, mkF, argsToLocals, Value.category]; done) | rfl
def Qown_ftext (Z : State) (a1 : Addr) (x : Addr) (h0 : Heap) (n0 : Nat) (v : Option Value) (h : Heap) (L : List Loc) : Prop := v = some (.ref x) ∧ Fr n0 L ∧ h = h0
theorem own_ftext (l : Launch) (Z : State) (a0 : Array Value) (hw : ∀ d ∈ tables_1, d.before a0 Z = true) (ws : List Jvm.Cond) (a1 : Addr) (x : Addr) (h0 : Heap) (n0 : Nat) (Z0 : n0 ≤ h0.size) (F1 : Fld Z h0 a1 "com/example/hemotide/hemotide/link/Frame" "text" "Ljava/lang/String;" (.ref x)) :
    MetFree l mn6 (head1 (Jvm.Cond.code mn6 prog_22_method_10_code 1 (some (.object "java/lang/String")) :: ws) (⟨0, 0, 0, 0⟩ : Room)) (fun a U => a = #[(.ref a1)] ∧ Z.Warmed39 U.vm ∧ U.heap = h0) (fun _ _ _ _ _ => True) (fun _ U o U' => ∃ v L, o = .returned v ∧ Qown_ftext Z a1 x h0 n0 v U'.heap L ∧ FrameEnd U o U' L (⟨0, 0, 0, 0⟩ : Room).cells (⟨0, 0, 0, 0⟩ : Room).slots) := by
  refine MetFree.of_bodySF (plainFor_of_name pn_com_example_hemotide_hemotide_link_Frame) hisR ?_
  intro p e s m args below meth c s₁ Bd hml0 hP hK
  obtain ⟨rfl, hZ, hh⟩ := hP
  have hx := Bd.exec
  have hby := Bd.bytes
  have hml : c.maxLocals = 1 := hml0
  have hown : s.vm.findClass "com/example/hemotide/hemotide/link/Frame" = some m.cls := findClass_of_methodNamed Bd.named
  have hnm := (name_of_methodNamed Bd.named Bd.method).1
  have X0 : Stand p l e (⟨0, 0, 0, 0⟩ : Room) s m #[(.ref a1)] below meth c s₁ [] 0 0 := Stand.of_body Bd
  have e0 : s₁.heap = h0 := by rw [← hh, Bd.state]; rfl
  have N0 := Fr.nil n0
  have pre0 : ∀ t, Steps p.tables e below (s₁.setTop (mkF m 0 #[.val (.ref a1)] [])) t → Steps p.tables e below (s₁.setTop (entryFrame m #[(.ref a1)] 1)) t := fun t k => castTop (ef_own_ftext m (a1)) k
  obtain ⟨T1, X1, e1, st1⟩ := getF X0 hx hZ hown (host := "") (Or.inl (wJ hw 46 rfl)) Via.refl e0 F1 (g := (mkF m 1 #[.val (.ref a1)] [(.ref a1)])) rfl rfl (hb hby d18_1)
  obtain ⟨fs, hr, hrun, hended, hW, hsame⟩ := X1.leave (v := some (.ref x)) (fun h => by rw [Bd.returns] at h; cases h)
  refine ⟨_, _, pre0 _ ?_, hrun, hended, _, _, rfl, ?_, ⟨_, rfl⟩, hW, hsame.mono (by decide) (by decide)⟩
  · show Steps p.tables e below (s₁.setTop (mkF m 0 #[.val (.ref a1)] [])) _
    refine XS.aloadN X0.here hx rfl (hb hby d18_0) rfl rfl ?_
    refine st1 _ ?_
    show Steps _ _ _ (T1.setTop (mkF m 4 #[.val (.ref a1)] [(.ref x)])) _
    exact retOut X1 hx Bd.returns rfl (Or.inr (Or.inr (Or.inr (Or.inr ⟨rfl, rfl, rfl⟩)))) (hb hby d18_4) hr
  · show Qown_ftext Z a1 x h0 n0 _ T1.heap _
    rw [e1]
    exact ⟨rfl, N0, rfl⟩
theorem d51_0 : decode c51 0 = .ok (.aload_n 0, 1) := by decide +kernel
theorem d51_1 : decode c51 1 = .ok (.getfield 27, 3) := by decide +kernel
theorem d51_4 : decode c51 4 = .ok (.ireturn, 1) := by decide +kernel
theorem ef_own_fendsRecord (m : MethodId) (x0 : Addr) : entryFrame m #[(.ref x0)] 1 = mkF m 0 #[.val (.ref x0)] [] := by first | (simp [entryFrame, mkF, argsToLocals, Value.category]; done) | rfl
def Qown_fendsRecord (Z : State) (a1 : Addr) (x : Int32) (h0 : Heap) (n0 : Nat) (v : Option Value) (h : Heap) (L : List Loc) : Prop := v = some (.int x) ∧ Fr n0 L ∧ h = h0
theorem own_fendsRecord (l : Launch) (Z : State) (a0 : Array Value) (hw : ∀ d ∈ tables_1, d.before a0 Z = true) (ws : List Jvm.Cond) (a1 : Addr) (x : Int32) (h0 : Heap) (n0 : Nat) (Z0 : n0 ≤ h0.size) (F1 : Fld Z h0 a1 "com/example/hemotide/hemotide/link/Frame" "endsRecord" "Z" (.int x)) (hxz : x = (0 : Int32) ∨ x = (1 : Int32)) :
    MetFree l mn4 (head1 (Jvm.Cond.code mn4 prog_22_method_11_code 1 (some .boolean) :: ws) (⟨0, 0, 0, 0⟩ : Room)) (fun a U => a = #[(.ref a1)] ∧ Z.Warmed39 U.vm ∧ U.heap = h0) (fun _ _ _ _ _ => True) (fun _ U o U' => ∃ v L, o = .returned v ∧ Qown_fendsRecord Z a1 x h0 n0 v U'.heap L ∧ FrameEnd U o U' L (⟨0, 0, 0, 0⟩ : Room).cells (⟨0, 0, 0, 0⟩ : Room).slots) := by
  refine MetFree.of_bodySF (plainFor_of_name pn_com_example_hemotide_hemotide_link_Frame) hisR ?_
  intro p e s m args below meth c s₁ Bd hml0 hP hK
  obtain ⟨rfl, hZ, hh⟩ := hP
  have hx := Bd.exec
  have hby := Bd.bytes
  have hml : c.maxLocals = 1 := hml0
  have hown : s.vm.findClass "com/example/hemotide/hemotide/link/Frame" = some m.cls := findClass_of_methodNamed Bd.named
  have hnm := (name_of_methodNamed Bd.named Bd.method).1
  have X0 : Stand p l e (⟨0, 0, 0, 0⟩ : Room) s m #[(.ref a1)] below meth c s₁ [] 0 0 := Stand.of_body Bd
  have e0 : s₁.heap = h0 := by rw [← hh, Bd.state]; rfl
  have N0 := Fr.nil n0
  have pre0 : ∀ t, Steps p.tables e below (s₁.setTop (mkF m 0 #[.val (.ref a1)] [])) t → Steps p.tables e below (s₁.setTop (entryFrame m #[(.ref a1)] 1)) t := fun t k => castTop (ef_own_fendsRecord m (a1)) k
  obtain ⟨T1, X1, e1, st1⟩ := getF X0 hx hZ hown (host := "") (Or.inl (wJ hw 48 rfl)) Via.refl e0 F1 (g := (mkF m 1 #[.val (.ref a1)] [(.ref a1)])) rfl rfl (hb hby d51_1)
  obtain ⟨fs, hr, hrun, hended, hW, hsame⟩ := X1.leave (v := some (.int (nar .boolean x))) (fun h => by rw [Bd.returns] at h; cases h)
  refine ⟨_, _, pre0 _ ?_, hrun, hended, _, _, rfl, ?_, ⟨_, rfl⟩, hW, hsame.mono (by decide) (by decide)⟩
  · show Steps p.tables e below (s₁.setTop (mkF m 0 #[.val (.ref a1)] [])) _
    refine XS.aloadN X0.here hx rfl (hb hby d51_0) rfl rfl ?_
    refine st1 _ ?_
    show Steps _ _ _ (T1.setTop (mkF m 4 #[.val (.ref a1)] [(.int x)])) _
    exact retN X1 hx (t := .boolean) Bd.returns (by simp) (hb hby d51_4) hr
  · show Qown_fendsRecord Z a1 x h0 n0 _ T1.heap _
    rw [e1]
    exact ⟨by rcases hxz with rfl | rfl <;> rfl, N0, rfl⟩
theorem own_sb.low {Z : State} {h h' : Heap} {nb : Nat} {a : Addr} {cap cnt : Int32} {ws : List Addr} (S : own_sb Z h nb a cap cnt) (K : Keep h h' ws) (q : ∀ x ∈ ws, x < nb) : own_sb Z h' nb a cap cnt := by
  obtain ⟨b, k, vs, e, f1, f2, f3, v, r1, r2, r3, r4, r5⟩ := S
  have na : a ∉ ws := fun z => Nat.not_le.mpr (q a z) r2
  have nb : b ∉ ws := fun z => Nat.not_le.mpr (q b z) r3
  exact ⟨b, k, vs, e.keep K, f1.keep K na, f2.keep K na, f3.keep K na, v.keep K nb, r1, r2, r3, r4, r5.keep K⟩
theorem own_sb.exa {Z : State} {h : Heap} {nb : Nat} {a : Addr} {cap cnt : Int32} (S : own_sb Z h nb a cap cnt) : Exa Z h a "java/lang/StringBuilder" := by obtain ⟨b, k, vs, e, _⟩ := S; exact e
theorem own_sb.cnt {Z : State} {h : Heap} {nb : Nat} {a : Addr} {cap cnt : Int32} (S : own_sb Z h nb a cap cnt) : Fld Z h a "java/lang/AbstractStringBuilder" "count" "I" (.int cnt) := by obtain ⟨b, k, vs, e, f1, f2, f3, _⟩ := S; exact f3
/-- a MessageAssembler as it is made; its builder lies behind it -/
def own_asm (Z : State) (h : Heap) (a : Addr) : Prop := ∃ sb : Addr, Exa Z h a "com/example/hemotide/hemotide/link/MessageAssembler" ∧ Fld Z h a "com/example/hemotide/hemotide/link/MessageAssembler" "record" "Ljava/lang/StringBuilder;" (.ref sb) ∧ Fld Z h a "com/example/hemotide/hemotide/link/MessageAssembler" "recordStart" "Lcom/example/hemotide/hemotide/link/Frame;" .null ∧ Fld Z h a "com/example/hemotide/hemotide/link/MessageAssembler" "characters" "I" (.int (0 : Int32)) ∧ own_sb Z h sb sb (16 : Int32) (0 : Int32) ∧ a < sb
theorem own_asm.low {Z : State} {h h' : Heap} {a : Addr} {ws : List Addr} (S : own_asm Z h a) (K : Keep h h' ws) (q : ∀ x ∈ ws, x < a) : own_asm Z h' a := by
  obtain ⟨sb, e, f1, f2, f3, B, r⟩ := S
  have na : a ∉ ws := fun z => Nat.lt_irrefl _ (q a z)
  exact ⟨sb, e.keep K, f1.keep K na, f2.keep K na, f3.keep K na, B.low K fun x hx => Nat.lt_trans (q x hx) r, r⟩
theorem d9_0 : decode c9 0 = .ok (.aload_n 0, 1) := by decide +kernel
theorem d9_1 : decode c9 1 = .ok (.invokespecial 1, 3) := by decide +kernel
theorem d9_4 : decode c9 4 = .ok (.aload_n 0, 1) := by decide +kernel
theorem d9_5 : decode c9 5 = .ok (.new 7, 3) := by decide +kernel
theorem d9_8 : decode c9 8 = .ok (.dup, 1) := by decide +kernel
theorem d9_9 : decode c9 9 = .ok (.invokespecial 9, 3) := by decide +kernel
theorem d9_12 : decode c9 12 = .ok (.putfield 10, 3) := by decide +kernel
theorem d9_15 : decode c9 15 = .ok (.return_, 1) := by decide +kernel
theorem pn_com_example_hemotide_hemotide_link_MessageAssembler : plainName "com/example/hemotide/hemotide/link/MessageAssembler" = true := by first | (simp [plainName, overriddenIn]; done) | decide +kernel
theorem ef_own_mai (m : MethodId) (x0 : Addr) : entryFrame m #[(.ref x0)] 1 = mkF m 0 #[.val (.ref x0)] [] := by first | (simp [entryFrame, mkF, argsToLocals, Value.category]; done) | rfl
def Qown_mai (Z : State) (a1 : Addr) (cs : Int32) (nb : Nat) (h0 : Heap) (n0 : Nat) (v : Option Value) (h : Heap) (L : List Loc) : Prop := v = none ∧ Fr n0 L ∧ Keep h0 h [a1] ∧ own_asm Z h a1
theorem own_mai (l : Launch) (Z : State) (a0 : Array Value) (hw : ∀ d ∈ tables_1, d.before a0 Z = true) (ws : List Jvm.Cond) (a1 : Addr) (cs : Int32) (nb : Nat) (h0 : Heap) (n0 : Nat) (Z0 : n0 ≤ h0.size) (F0 : Fld Z h0 a1 "com/example/hemotide/hemotide/link/MessageAssembler" "record" "Ljava/lang/StringBuilder;" .null) (F1 : Fld Z h0 a1 "com/example/hemotide/hemotide/link/MessageAssembler" "recordStart" "Lcom/example/hemotide/hemotide/link/Frame;" .null) (F2 : Fld Z h0 a1 "com/example/hemotide/hemotide/link/MessageAssembler" "characters" "I" (.int (0 : Int32))) (E1 : Exa Z h0 a1 "com/example/hemotide/hemotide/link/MessageAssembler") (g_a1 : n0 ≤ a1) (hn1 : n0 ≤ nb) (hn2 : nb ≤ h0.size) (SC : own_S Z h0 nb "java/lang/String" "COMPACT_STRINGS" "Z" (.int cs)) (hcs : ¬ (cs = (0 : Int32))) :
    MetFree l mn7 (head1 (Jvm.Cond.code mn7 prog_33_method_1_code 1 none :: ws) (⟨3, 2, 20, 39⟩ : Room)) (fun a U => a = #[(.ref a1)] ∧ Z.Warmed39 U.vm ∧ U.heap = h0) (fun _ _ _ _ _ => True) (fun _ U o U' => ∃ v L, o = .returned v ∧ Qown_mai Z a1 cs nb h0 n0 v U'.heap L ∧ FrameEnd U o U' L (⟨3, 2, 20, 39⟩ : Room).cells (⟨3, 2, 20, 39⟩ : Room).slots) := by
  refine MetFree.of_bodySF (plainFor_of_name pn_com_example_hemotide_hemotide_link_MessageAssembler) hisR ?_
  intro p e s m args below meth c s₁ Bd hml0 hP hK
  obtain ⟨rfl, hZ, hh⟩ := hP
  have hx := Bd.exec
  have hby := Bd.bytes
  have hml : c.maxLocals = 1 := hml0
  have hown : s.vm.findClass "com/example/hemotide/hemotide/link/MessageAssembler" = some m.cls := findClass_of_methodNamed Bd.named
  have hnm := (name_of_methodNamed Bd.named Bd.method).1
  have X0 : Stand p l e (⟨3, 2, 20, 39⟩ : Room) s m #[(.ref a1)] below meth c s₁ [] 0 0 := Stand.of_body Bd
  have e0 : s₁.heap = h0 := by rw [← hh, Bd.state]; rfl
  have N0 := Fr.nil n0
  have pre0 : ∀ t, Steps p.tables e below (s₁.setTop (mkF m 0 #[.val (.ref a1)] [])) t → Steps p.tables e below (s₁.setTop (entryFrame m #[(.ref a1)] 1)) t := fun t k => castTop (ef_own_mai m (a1)) k
  obtain ⟨T1, X1, e1, st1⟩ := initO X0 hx hZ hown (wJ hw 76 rfl) (wJ hw 20 rfl) (wJ hw 21 rfl) e0 (g := (mkF m 1 #[.val (.ref a1)] [(.ref a1)])) rfl (by rw [hml]; rfl) rfl (hb hby d9_1) (by decide) (W := 0) (by show 2 * 0 + _ ≤ _; exact Nat.le_of_eq rfl) (by decide)
  obtain ⟨T2, h2, X2, e2, E2, A2, D2, -, st2⟩ := newO X1 hx hZ hown (wJ hw 77 rfl) (wJ hw 78 rfl) (wJ hw 79 rfl) e1 (g := (mkF m 5 #[.val (.ref a1)] [(.ref a1)])) rfl (hb hby d9_5) (by decide) (by decide)
  obtain ⟨b2, g2⟩ : ∃ z, z = h0.size := ⟨_, rfl⟩
  rw [← g2] at A2 D2 st2
  have g_b2 : n0 ≤ b2 := Nat.le_trans Z0 (Nat.le_of_eq g2.symm)
  have sz_b2 : h0.size ≤ b2 := Nat.le_trans (Keep.refl h0 [a1]).1 (Nat.le_of_eq g2.symm)
  have Z2 : n0 ≤ h2.size := Nat.le_trans Z0 E2.1
  have K2 : Keep h0 h2 [a1] := (Keep.refl h0 [a1]).ext E2
  have F_value_b2 : Fld Z h2 b2 "java/lang/AbstractStringBuilder" "value" "[B" .null := D2 (Or.inl (wJ hw 92 rfl)) (ty := (.array .byte)) (by decide)
  have F_coder_b2 : Fld Z h2 b2 "java/lang/AbstractStringBuilder" "coder" "B" (.int (0 : Int32)) := D2 (Or.inl (wJ hw 94 rfl)) (ty := .byte) (by decide)
  have F_count_b2 : Fld Z h2 b2 "java/lang/AbstractStringBuilder" "count" "I" (.int (0 : Int32)) := D2 (Or.inl (wJ hw 167 rfl)) (ty := .int) (by decide)
  obtain ⟨_, _, ⟨T3, L3, k3, n3⟩, -, X3, ⟨Lc3, hQ3, l3, y3, z3⟩, st3⟩ := X2.specialBack hx (y := mn37) rfl hown (mvT hZ (wJ hw 80 rfl)) (mvT hZ (wJ hw 81 rfl)) (mvT hZ (wJ hw 82 rfl)) (by decide) (backOf (W := 2) (own_sbi l Z a0 hw [] b2 cs b2 h2 n0 Z2 F_value_b2 F_coder_b2 F_count_b2 A2 (Nat.le_refl _) g_b2 (Nat.le_of_lt A2.lt) (own_S.mono (Nat.le_trans hn2 sz_b2) (own_S.W SC ⟨[], ((Keep.refl h0 []).ext E2), all0⟩)) hcs) hZ (wJ hw 82 rfl) (wJ hw 79 rfl) (by decide) (by decide)) (g := (mkF m 9 #[.val (.ref a1)] [(.ref b2), (.ref b2), (.ref a1)])) rfl (by rw [hml]; rfl) (Steps.refl _) (a := b2) (argsL := []) (rest := [(.ref b2), (.ref a1)]) (lenOf pd___V rfl) rfl (by show 2 * 0 + _ ≤ _; exact Nat.le_of_eq rfl) (hb hby d9_9) (fun _ _ => ⟨rfl, e2, (by decide : 1 + 1 ≤ _), (by decide : 4 + 16 ≤ _)⟩)
  dsimp only [Pt.U, Pt.locs, Pt.cells, Pt.slots] at X3 l3 y3 z3 st3 hQ3
  replace X3 := X3.more (Nat.le_of_eq (show k3 = 2 from y3)) (Nat.le_of_eq (show n3 = 20 from z3))
  obtain ⟨rfl, Nq3, Kq3, B1⟩ := hQ3
  have Z3 : n0 ≤ T3.heap.size := Nat.le_trans Z2 Kq3.1
  have K3 : Keep h0 T3.heap [a1] := K2.trans Kq3 (allS (Or.inr sz_b2) all0)
  have N3 : Fr n0 L3 := by rw [l3]; exact Fr.app N0 Nq3
  have lt1 : a1 < b2 := Nat.lt_of_lt_of_le E1.lt sz_b2
  have ne_a1_b2 : a1 ≠ b2 := Nat.ne_of_lt (Nat.lt_of_lt_of_le E1.lt (Nat.le_of_eq g2.symm))
  have fc5 := ((F0.ext E2).keep Kq3 (ninS ne_a1_b2 nin0))
  have fc6 := ((E1.ext E2).keep Kq3)
  obtain ⟨T4, h4, X4, e4, W4, st4⟩ := putF X3 hx hZ hown (host := "") (Or.inl (wJ hw 95 rfl)) Via.refl rfl fc5 fc6 (Or.inr ⟨(wJ hw 96 rfl), rfl, hnm⟩) (wJ hw 71 rfl) (ty := (.object "java/lang/StringBuilder")) (by decide) rfl rfl (g := (mkF m 12 #[.val (.ref a1)] [(.ref b2), (.ref a1)])) rfl rfl (hb hby d9_12)
  have Fw4 := fc5.same W4
  have K4 : Keep h0 h4 [a1] := K3.wr W4 (Or.inl (wI 0 rfl))
  have N4 := Fr.snoc X4 N3 g_a1
  have Z4 : n0 ≤ h4.size := Nat.le_trans Z3 (Keep.of_wr W4).1
  have fc7 := (fc6.wr W4)
  have fc8 := (((F1.ext E2).keep Kq3 (ninS ne_a1_b2 nin0)).other W4 (Or.inr (slot_ne (Or.inl (wJ hw 321 rfl)) (Or.inr (wJ hw 96 rfl)) (by decide) (t := (.object "com/example/hemotide/hemotide/link/Frame")) (t' := (.object "java/lang/StringBuilder")) (by decide) (by decide))))
  have fc9 := (((F2.ext E2).keep Kq3 (ninS ne_a1_b2 nin0)).other W4 (Or.inr (slot_ne (Or.inl (wJ hw 333 rfl)) (Or.inr (wJ hw 96 rfl)) (by decide) (t := .int) (t' := (.object "java/lang/StringBuilder")) (by decide) (by decide))))
  obtain ⟨fs, hr, hrun, hended, hW, hsame⟩ := X4.leave (v := none) (fun _ => rfl)
  refine ⟨_, _, pre0 _ ?_, hrun, hended, _, _, rfl, ?_, ⟨_, rfl⟩, hW, hsame.mono (by decide) (by decide)⟩
  · show Steps p.tables e below (s₁.setTop (mkF m 0 #[.val (.ref a1)] [])) _
    refine XS.aloadN X0.here hx rfl (hb hby d9_0) rfl rfl ?_
    refine st1 _ ?_
    refine XS.aloadN X1.here hx rfl (hb hby d9_4) rfl rfl ?_
    refine st2 _ ?_
    show Steps _ _ _ (T2.setTop (mkF m 8 #[.val (.ref a1)] [(.ref b2), (.ref a1)])) _
    refine XS.dup X2.here hx rfl (hb hby d9_8) rfl rfl ?_
    refine st3.trans ?_
    refine st4 _ ?_
    show Steps _ _ _ (T4.setTop (mkF m 15 #[.val (.ref a1)] [])) _
    exact X4.returnOut hx Bd.returns (hb hby d9_15) hr
  · show Qown_mai Z a1 cs nb h0 n0 _ T4.heap _
    rw [e4]
    exact ⟨rfl, N4, K4, b2, fc7, Fw4, fc8, fc9, B1.low (Keep.of_wr W4) (allS lt1 all0), lt1⟩
theorem d8_0 : decode c8 0 = .ok (.aload_n 0, 1) := by decide +kernel
theorem d8_1 : decode c8 1 = .ok (.invokespecial 1, 3) := by decide +kernel
theorem d8_4 : decode c8 4 = .ok (.aload_n 0, 1) := by decide +kernel
theorem d8_5 : decode c8 5 = .ok (.new 7, 3) := by decide +kernel
theorem d8_8 : decode c8 8 = .ok (.dup, 1) := by decide +kernel
theorem d8_9 : decode c8 9 = .ok (.invokespecial 9, 3) := by decide +kernel
theorem d8_12 : decode c8 12 = .ok (.putfield 10, 3) := by decide +kernel
theorem d8_15 : decode c8 15 = .ok (.aload_n 0, 1) := by decide +kernel
theorem d8_16 : decode c8 16 = .ok (.iconst 1, 1) := by decide +kernel
theorem d8_17 : decode c8 17 = .ok (.putfield 18, 3) := by decide +kernel
theorem d8_20 : decode c8 20 = .ok (.return_, 1) := by decide +kernel
theorem pn_com_example_hemotide_hemotide_link_Transfer : plainName "com/example/hemotide/hemotide/link/Transfer" = true := by first | (simp [plainName, overriddenIn]; done) | decide +kernel
theorem ef_own_tri (m : MethodId) (x0 : Addr) : entryFrame m #[(.ref x0)] 1 = mkF m 0 #[.val (.ref x0)] [] := by first | (simp [entryFrame, mkF, argsToLocals, Value.category]; done) | rfl
def Qown_tri (Z : State) (a1 : Addr) (cs : Int32) (nb : Nat) (h0 : Heap) (n0 : Nat) (v : Option Value) (h : Heap) (L : List Loc) : Prop := v = none ∧ Fr n0 L ∧ Keep h0 h [a1] ∧ ∃ asm : Addr, a1 < asm ∧ own_asm Z h asm ∧ Fld Z h a1 "com/example/hemotide/hemotide/link/Transfer" "assembler" "Lcom/example/hemotide/hemotide/link/MessageAssembler;" (.ref asm) ∧ Fld Z h a1 "com/example/hemotide/hemotide/link/Transfer" "due" "I" (.int (1 : Int32)) ∧ Fld Z h a1 "com/example/hemotide/hemotide/link/Transfer" "repeatable" "Lcom/example/hemotide/hemotide/link/Frame;" .null ∧ Fld Z h a1 "com/example/hemotide/hemotide/link/Transfer" "awaited" "Lcom/example/hemotide/hemotide/link/Frame;" .null ∧ Fld Z h a1 "com/example/hemotide/hemotide/link/Transfer" "refusedInARow" "I" (.int (0 : Int32))
theorem own_tri (l : Launch) (Z : State) (a0 : Array Value) (hw : ∀ d ∈ tables_1, d.before a0 Z = true) (ws : List Jvm.Cond) (a1 : Addr) (cs : Int32) (nb : Nat) (h0 : Heap) (n0 : Nat) (Z0 : n0 ≤ h0.size) (F0 : Fld Z h0 a1 "com/example/hemotide/hemotide/link/Transfer" "assembler" "Lcom/example/hemotide/hemotide/link/MessageAssembler;" .null) (F1 : Fld Z h0 a1 "com/example/hemotide/hemotide/link/Transfer" "due" "I" (.int (0 : Int32))) (F2 : Fld Z h0 a1 "com/example/hemotide/hemotide/link/Transfer" "repeatable" "Lcom/example/hemotide/hemotide/link/Frame;" .null) (F3 : Fld Z h0 a1 "com/example/hemotide/hemotide/link/Transfer" "awaited" "Lcom/example/hemotide/hemotide/link/Frame;" .null) (F4 : Fld Z h0 a1 "com/example/hemotide/hemotide/link/Transfer" "refusedInARow" "I" (.int (0 : Int32))) (E1 : Exa Z h0 a1 "com/example/hemotide/hemotide/link/Transfer") (g_a1 : n0 ≤ a1) (hn1 : n0 ≤ nb) (hn2 : nb ≤ h0.size) (SC : own_S Z h0 nb "java/lang/String" "COMPACT_STRINGS" "Z" (.int cs)) (hcs : ¬ (cs = (0 : Int32))) :
    MetFree l mn9 (head1 (Jvm.Cond.code mn9 prog_35_method_1_code 1 none :: ws) (⟨4, 3, 27, 53⟩ : Room)) (fun a U => a = #[(.ref a1)] ∧ Z.Warmed39 U.vm ∧ U.heap = h0) (fun _ _ _ _ _ => True) (fun _ U o U' => ∃ v L, o = .returned v ∧ Qown_tri Z a1 cs nb h0 n0 v U'.heap L ∧ FrameEnd U o U' L (⟨4, 3, 27, 53⟩ : Room).cells (⟨4, 3, 27, 53⟩ : Room).slots) := by
  refine MetFree.of_bodySF (plainFor_of_name pn_com_example_hemotide_hemotide_link_Transfer) hisR ?_
  intro p e s m args below meth c s₁ Bd hml0 hP hK
  obtain ⟨rfl, hZ, hh⟩ := hP
  have hx := Bd.exec
  have hby := Bd.bytes
  have hml : c.maxLocals = 1 := hml0
  have hown : s.vm.findClass "com/example/hemotide/hemotide/link/Transfer" = some m.cls := findClass_of_methodNamed Bd.named
  have hnm := (name_of_methodNamed Bd.named Bd.method).1
  have X0 : Stand p l e (⟨4, 3, 27, 53⟩ : Room) s m #[(.ref a1)] below meth c s₁ [] 0 0 := Stand.of_body Bd
  have e0 : s₁.heap = h0 := by rw [← hh, Bd.state]; rfl
  have N0 := Fr.nil n0
  have pre0 : ∀ t, Steps p.tables e below (s₁.setTop (mkF m 0 #[.val (.ref a1)] [])) t → Steps p.tables e below (s₁.setTop (entryFrame m #[(.ref a1)] 1)) t := fun t k => castTop (ef_own_tri m (a1)) k
  obtain ⟨T1, X1, e1, st1⟩ := initO X0 hx hZ hown (wJ hw 69 rfl) (wJ hw 20 rfl) (wJ hw 21 rfl) e0 (g := (mkF m 1 #[.val (.ref a1)] [(.ref a1)])) rfl (by rw [hml]; rfl) rfl (hb hby d8_1) (by decide) (W := 0) (by show 2 * 0 + _ ≤ _; exact Nat.le_of_eq rfl) (by decide)
  obtain ⟨T2, h2, X2, e2, E2, A2, D2, -, st2⟩ := newO X1 hx hZ hown (wJ hw 70 rfl) (wJ hw 71 rfl) (wJ hw 72 rfl) e1 (g := (mkF m 5 #[.val (.ref a1)] [(.ref a1)])) rfl (hb hby d8_5) (by decide) (by decide)
  obtain ⟨b2, g2⟩ : ∃ z, z = h0.size := ⟨_, rfl⟩
  rw [← g2] at A2 D2 st2
  have g_b2 : n0 ≤ b2 := Nat.le_trans Z0 (Nat.le_of_eq g2.symm)
  have sz_b2 : h0.size ≤ b2 := Nat.le_trans (Keep.refl h0 [a1]).1 (Nat.le_of_eq g2.symm)
  have Z2 : n0 ≤ h2.size := Nat.le_trans Z0 E2.1
  have K2 : Keep h0 h2 [a1] := (Keep.refl h0 [a1]).ext E2
  have F_record_b2 : Fld Z h2 b2 "com/example/hemotide/hemotide/link/MessageAssembler" "record" "Ljava/lang/StringBuilder;" .null := D2 (Or.inr (wJ hw 96 rfl)) (ty := (.object "java/lang/StringBuilder")) (by decide)
  have F_recordStart_b2 : Fld Z h2 b2 "com/example/hemotide/hemotide/link/MessageAssembler" "recordStart" "Lcom/example/hemotide/hemotide/link/Frame;" .null := D2 (Or.inl (wJ hw 321 rfl)) (ty := (.object "com/example/hemotide/hemotide/link/Frame")) (by decide)
  have F_characters_b2 : Fld Z h2 b2 "com/example/hemotide/hemotide/link/MessageAssembler" "characters" "I" (.int (0 : Int32)) := D2 (Or.inl (wJ hw 333 rfl)) (ty := .int) (by decide)
  obtain ⟨_, _, ⟨T3, L3, k3, n3⟩, -, X3, ⟨Lc3, hQ3, l3, y3, z3⟩, st3⟩ := X2.specialBack hx (y := mn7) rfl hown (mvT hZ (wJ hw 73 rfl)) (mvT hZ (wJ hw 74 rfl)) (mvT hZ (wJ hw 75 rfl)) (by decide) (backOf (W := 2) (own_mai l Z a0 hw [] b2 cs nb h2 n0 Z2 F_record_b2 F_recordStart_b2 F_characters_b2 A2 g_b2 hn1 (Nat.le_trans hn2 E2.1) (own_S.W SC ⟨[], ((Keep.refl h0 []).ext E2), all0⟩) hcs) hZ (wJ hw 75 rfl) (wJ hw 72 rfl) (by decide) (by decide)) (g := (mkF m 9 #[.val (.ref a1)] [(.ref b2), (.ref b2), (.ref a1)])) rfl (by rw [hml]; rfl) (Steps.refl _) (a := b2) (argsL := []) (rest := [(.ref b2), (.ref a1)]) (lenOf pd___V rfl) rfl (by show 2 * 0 + _ ≤ _; exact Nat.le_of_eq rfl) (hb hby d8_9) (fun _ _ => ⟨rfl, e2, (by decide : 1 + 2 ≤ _), (by decide : 7 + 20 ≤ _)⟩)
  dsimp only [Pt.U, Pt.locs, Pt.cells, Pt.slots] at X3 l3 y3 z3 st3 hQ3
  replace X3 := X3.more (Nat.le_of_eq (show k3 = 3 from y3)) (Nat.le_of_eq (show n3 = 27 from z3))
  obtain ⟨rfl, Nq3, Kq3, A1⟩ := hQ3
  have Z3 : n0 ≤ T3.heap.size := Nat.le_trans Z2 Kq3.1
  have K3 : Keep h0 T3.heap [a1] := K2.trans Kq3 (allS (Or.inr sz_b2) all0)
  have N3 : Fr n0 L3 := by rw [l3]; exact Fr.app N0 Nq3
  have lt1 : a1 < b2 := Nat.lt_of_lt_of_le E1.lt sz_b2
  have ne_a1_b2 : a1 ≠ b2 := Nat.ne_of_lt (Nat.lt_of_lt_of_le E1.lt (Nat.le_of_eq g2.symm))
  have fc5 := ((F0.ext E2).keep Kq3 (ninS ne_a1_b2 nin0))
  have fc6 := ((E1.ext E2).keep Kq3)
  obtain ⟨T4, h4, X4, e4, W4, st4⟩ := putF X3 hx hZ hown (host := "") (Or.inl (wJ hw 97 rfl)) Via.refl rfl fc5 fc6 (Or.inr ⟨(wJ hw 98 rfl), rfl, hnm⟩) (wJ hw 64 rfl) (ty := (.object "com/example/hemotide/hemotide/link/MessageAssembler")) (by decide) rfl rfl (g := (mkF m 12 #[.val (.ref a1)] [(.ref b2), (.ref a1)])) rfl rfl (hb hby d8_12)
  have Fw4 := fc5.same W4
  have K4 : Keep h0 h4 [a1] := K3.wr W4 (Or.inl (wI 0 rfl))
  have N4 := Fr.snoc X4 N3 g_a1
  have Z4 : n0 ≤ h4.size := Nat.le_trans Z3 (Keep.of_wr W4).1
  have fc8 := (((F1.ext E2).keep Kq3 (ninS ne_a1_b2 nin0)).other W4 (Or.inr (slot_ne (Or.inl (wJ hw 100 rfl)) (Or.inr (wJ hw 98 rfl)) (by decide) (t := .int) (t' := (.object "com/example/hemotide/hemotide/link/MessageAssembler")) (by decide) (by decide))))
  have fc9 := (fc6.wr W4)
  obtain ⟨T7, h7, X7, e7, W7, st7⟩ := putF X4 hx hZ hown (host := "") (Or.inl (wJ hw 99 rfl)) Via.refl e4 fc8 fc9 (Or.inl (wJ hw 100 rfl)) (wJ hw 64 rfl) (ty := .int) (by decide) rfl rfl (g := (mkF m 17 #[.val (.ref a1)] [(.int (1 : Int32)), (.ref a1)])) rfl rfl (hb hby d8_17)
  have Fw7 := fc8.same W7
  have K7 : Keep h0 h7 [a1] := K4.wr W7 (Or.inl (wI 0 rfl))
  have N7 := Fr.snoc X7 N4 g_a1
  have Z7 : n0 ≤ h7.size := Nat.le_trans Z4 (Keep.of_wr W7).1
  have fc10 := (Fw4.other W7 (Or.inr (slot_ne (Or.inr (wJ hw 98 rfl)) (Or.inl (wJ hw 100 rfl)) (by decide) (t := (.object "com/example/hemotide/hemotide/link/MessageAssembler")) (t' := .int) (by decide) (by decide))))
  have fc11 := ((((F2.ext E2).keep Kq3 (ninS ne_a1_b2 nin0)).other W4 (Or.inr (slot_ne (Or.inl (wJ hw 114 rfl)) (Or.inr (wJ hw 98 rfl)) (by decide) (t := (.object "com/example/hemotide/hemotide/link/Frame")) (t' := (.object "com/example/hemotide/hemotide/link/MessageAssembler")) (by decide) (by decide)))).other W7 (Or.inr (slot_ne (Or.inl (wJ hw 114 rfl)) (Or.inl (wJ hw 100 rfl)) (by decide) (t := (.object "com/example/hemotide/hemotide/link/Frame")) (t' := .int) (by decide) (by decide))))
  have fc12 := ((((F3.ext E2).keep Kq3 (ninS ne_a1_b2 nin0)).other W4 (Or.inr (slot_ne (Or.inl (wJ hw 107 rfl)) (Or.inr (wJ hw 98 rfl)) (by decide) (t := (.object "com/example/hemotide/hemotide/link/Frame")) (t' := (.object "com/example/hemotide/hemotide/link/MessageAssembler")) (by decide) (by decide)))).other W7 (Or.inr (slot_ne (Or.inl (wJ hw 107 rfl)) (Or.inl (wJ hw 100 rfl)) (by decide) (t := (.object "com/example/hemotide/hemotide/link/Frame")) (t' := .int) (by decide) (by decide))))
  have fc13 := ((((F4.ext E2).keep Kq3 (ninS ne_a1_b2 nin0)).other W4 (Or.inr (slot_ne (Or.inl (wJ hw 116 rfl)) (Or.inr (wJ hw 98 rfl)) (by decide) (t := .int) (t' := (.object "com/example/hemotide/hemotide/link/MessageAssembler")) (by decide) (by decide)))).other W7 (Or.inr (slot_ne (Or.inl (wJ hw 116 rfl)) (Or.inl (wJ hw 100 rfl)) (by decide) (t := .int) (t' := .int) (by decide) (by decide))))
  obtain ⟨fs, hr, hrun, hended, hW, hsame⟩ := X7.leave (v := none) (fun _ => rfl)
  refine ⟨_, _, pre0 _ ?_, hrun, hended, _, _, rfl, ?_, ⟨_, rfl⟩, hW, hsame.mono (by decide) (by decide)⟩
  · show Steps p.tables e below (s₁.setTop (mkF m 0 #[.val (.ref a1)] [])) _
    refine XS.aloadN X0.here hx rfl (hb hby d8_0) rfl rfl ?_
    refine st1 _ ?_
    refine XS.aloadN X1.here hx rfl (hb hby d8_4) rfl rfl ?_
    refine st2 _ ?_
    show Steps _ _ _ (T2.setTop (mkF m 8 #[.val (.ref a1)] [(.ref b2), (.ref a1)])) _
    refine XS.dup X2.here hx rfl (hb hby d8_8) rfl rfl ?_
    refine st3.trans ?_
    refine st4 _ ?_
    refine XS.aloadN X4.here hx rfl (hb hby d8_15) rfl rfl ?_
    show Steps _ _ _ (T4.setTop (mkF m 16 #[.val (.ref a1)] [(.ref a1)])) _
    refine XS.iconst X4.here hx rfl (hb hby d8_16) ?_
    refine st7 _ ?_
    show Steps _ _ _ (T7.setTop (mkF m 20 #[.val (.ref a1)] [])) _
    exact X7.returnOut hx Bd.returns (hb hby d8_20) hr
  · show Qown_tri Z a1 cs nb h0 n0 _ T7.heap _
    rw [e7]
    exact ⟨rfl, N7, K7, b2, lt1, (A1.low (Keep.of_wr W4) (allS lt1 all0)).low (Keep.of_wr W7) (allS lt1 all0), fc10, Fw7, fc11, fc12, fc13⟩
theorem d49_0 : decode c49 0 = .ok (.iload_n 0, 1) := by decide +kernel
theorem d49_1 : decode c49 1 = .ok (.iconst 1, 1) := by decide +kernel
theorem d49_2 : decode c49 2 = .ok (.iadd, 1) := by decide +kernel
theorem d49_3 : decode c49 3 = .ok (.bipush 8, 2) := by decide +kernel
theorem d49_5 : decode c49 5 = .ok (.irem, 1) := by decide +kernel
theorem d49_6 : decode c49 6 = .ok (.ireturn, 1) := by decide +kernel
theorem pn_com_example_hemotide_hemotide_link_E1381 : plainName "com/example/hemotide/hemotide/link/E1381" = true := by first | (simp [plainName, overriddenIn]; done) | decide +kernel
theorem ef_own_fna (m : MethodId) (x0 : Int32) : entryFrame m #[(.int x0)] 1 = mkF m 0 #[.val (.int x0)] [] := by first | (simp [entryFrame, mkF, argsToLocals, Value.category]; done) | rfl
def Qown_fna (Z : State) (p1 : Int32) (h0 : Heap) (n0 : Nat) (v : Option Value) (h : Heap) (L : List Loc) : Prop := v = some (.int ((p1 + (1 : Int32)) % (8 : Int32))) ∧ Fr n0 L ∧ h = h0
theorem own_fna (l : Launch) (Z : State) (a0 : Array Value) (hw : ∀ d ∈ tables_1, d.before a0 Z = true) (ws : List Jvm.Cond) (p1 : Int32) (h0 : Heap) (n0 : Nat) (Z0 : n0 ≤ h0.size) :
    MetFree l mn0 (head1 (Jvm.Cond.code mn0 prog_21_method_2_code 1 (some .int) :: ws) (⟨0, 0, 0, 0⟩ : Room)) (fun a U => a = #[(.int p1)] ∧ Z.Warmed39 U.vm ∧ U.heap = h0) (fun _ _ _ _ _ => True) (fun _ U o U' => ∃ v L, o = .returned v ∧ Qown_fna Z p1 h0 n0 v U'.heap L ∧ FrameEnd U o U' L (⟨0, 0, 0, 0⟩ : Room).cells (⟨0, 0, 0, 0⟩ : Room).slots) := by
  refine MetFree.of_bodySF (plainFor_of_name pn_com_example_hemotide_hemotide_link_E1381) hisR ?_
  intro p e s m args below meth c s₁ Bd hml0 hP hK
  obtain ⟨rfl, hZ, hh⟩ := hP
  have hx := Bd.exec
  have hby := Bd.bytes
  have hml : c.maxLocals = 1 := hml0
  have hown : s.vm.findClass "com/example/hemotide/hemotide/link/E1381" = some m.cls := findClass_of_methodNamed Bd.named
  have hnm := (name_of_methodNamed Bd.named Bd.method).1
  have X0 : Stand p l e (⟨0, 0, 0, 0⟩ : Room) s m #[(.int p1)] below meth c s₁ [] 0 0 := Stand.of_body Bd
  have e0 : s₁.heap = h0 := by rw [← hh, Bd.state]; rfl
  have N0 := Fr.nil n0
  have pre0 : ∀ t, Steps p.tables e below (s₁.setTop (mkF m 0 #[.val (.int p1)] [])) t → Steps p.tables e below (s₁.setTop (entryFrame m #[(.int p1)] 1)) t := fun t k => castTop (ef_own_fna m (p1)) k
  obtain ⟨fs, hr, hrun, hended, hW, hsame⟩ := X0.leave (v := some (.int ((p1 + (1 : Int32)) % (8 : Int32)))) (fun h => by rw [Bd.returns] at h; cases h)
  refine ⟨_, _, pre0 _ ?_, hrun, hended, _, _, rfl, ?_, ⟨_, rfl⟩, hW, hsame.mono (by decide) (by decide)⟩
  · show Steps p.tables e below (s₁.setTop (mkF m 0 #[.val (.int p1)] [])) _
    refine XS.iloadN X0.here hx rfl (hb hby d49_0) rfl ?_
    refine XS.iconst X0.here hx rfl (hb hby d49_1) ?_
    refine XS.iadd X0.here hx rfl (hb hby d49_2) rfl ?_
    refine XS.bipush X0.here hx rfl (hb hby d49_3) ?_
    show Steps _ _ _ (s₁.setTop (mkF m 5 #[.val (.int p1)] [(.int (8 : Int32)), (.int (p1 + (1 : Int32)))])) _
    refine iremM X0 hx rfl (hb hby d49_5) rfl (by decide) ?_
    show Steps _ _ _ (s₁.setTop (mkF m 6 #[.val (.int p1)] [(.int ((p1 + (1 : Int32)) % (8 : Int32)))])) _
    exact retI X0 hx Bd.returns (hb hby d49_6) hr
  · show Qown_fna Z p1 h0 n0 _ s₁.heap _
    rw [e0]
    exact ⟨rfl, N0, rfl⟩
theorem d50_0 : decode c50 0 = .ok (.aload_n 0, 1) := by decide +kernel
theorem d50_1 : decode c50 1 = .ok (.getfield 16, 3) := by decide +kernel
theorem d50_4 : decode c50 4 = .ok (.ifnonnull 8, 3) := by decide +kernel
theorem d50_7 : decode c50 7 = .ok (.aload_n 0, 1) := by decide +kernel
theorem d50_8 : decode c50 8 = .ok (.aload_n 1, 1) := by decide +kernel
theorem d50_9 : decode c50 9 = .ok (.putfield 16, 3) := by decide +kernel
theorem d50_12 : decode c50 12 = .ok (.aload_n 0, 1) := by decide +kernel
theorem d50_13 : decode c50 13 = .ok (.getfield 10, 3) := by decide +kernel
theorem d50_16 : decode c50 16 = .ok (.aload_n 1, 1) := by decide +kernel
theorem d50_17 : decode c50 17 = .ok (.invokevirtual 20, 3) := by decide +kernel
theorem pd___Ljava_lang_String_ : parseMethodDescriptor "()Ljava/lang/String;" = some ⟨[], some (.object "java/lang/String")⟩ := by decide +kernel
theorem d50_20 : decode c50 20 = .ok (.invokevirtual 26, 3) := by decide +kernel
theorem pd__Ljava_lang_String__Ljava_lang_StringBuilder_ : parseMethodDescriptor "(Ljava/lang/String;)Ljava/lang/StringBuilder;" = some ⟨[(.object "java/lang/String")], some (.object "java/lang/StringBuilder")⟩ := by decide +kernel
theorem d50_23 : decode c50 23 = .ok (.pop, 1) := by decide +kernel
theorem d50_24 : decode c50 24 = .ok (.aload_n 0, 1) := by decide +kernel
theorem d50_25 : decode c50 25 = .ok (.getfield 10, 3) := by decide +kernel
theorem d50_28 : decode c50 28 = .ok (.invokevirtual 30, 3) := by decide +kernel
theorem d50_31 : decode c50 31 = .ok (.istore_n 2, 1) := by decide +kernel
theorem d50_32 : decode c50 32 = .ok (.aload_n 1, 1) := by decide +kernel
theorem d50_33 : decode c50 33 = .ok (.invokevirtual 34, 3) := by decide +kernel
theorem d50_36 : decode c50 36 = .ok (.ifCond .eq 25, 3) := by decide +kernel
theorem d50_61 : decode c50 61 = .ok (.aload_n 0, 1) := by decide +kernel
theorem d50_62 : decode c50 62 = .ok (.getfield 44, 3) := by decide +kernel
theorem d50_65 : decode c50 65 = .ok (.iload_n 2, 1) := by decide +kernel
theorem d50_66 : decode c50 66 = .ok (.iadd, 1) := by decide +kernel
theorem d50_67 : decode c50 67 = .ok (.ldc 48, 2) := by decide +kernel
theorem d50_69 : decode c50 69 = .ok (.if_icmp .le 12, 3) := by decide +kernel
theorem d50_81 : decode c50 81 = .ok (.aload_n 1, 1) := by decide +kernel
theorem d50_82 : decode c50 82 = .ok (.invokevirtual 34, 3) := by decide +kernel
theorem d50_85 : decode c50 85 = .ok (.ifCond .ne 5, 3) := by decide +kernel
theorem d50_88 : decode c50 88 = .ok (.aconst_null, 1) := by decide +kernel
theorem d50_89 : decode c50 89 = .ok (.areturn, 1) := by decide +kernel
theorem ef_own_maa (m : MethodId) (x0 : Addr) (x1 : Addr) : entryFrame m #[(.ref x0), (.ref x1)] 5 = mkF m 0 #[.val (.ref x0), .val (.ref x1), .unset, .unset, .unset] [] := by first | (simp [entryFrame, mkF, argsToLocals, Value.category]; done) | rfl
def Qown_maa (Z : State) (a1 : Addr) (a2 : Addr) (tx : Addr) (u : Int32) (cs : Int32) (nb : Nat) (h0 : Heap) (n0 : Nat) (v : Option Value) (h : Heap) (L : List Loc) : Prop := v = some .null ∧ Fr n0 L ∧ own_W a1 h0 h
theorem own_maa (l : Launch) (Z : State) (a0 : Array Value) (hw : ∀ d ∈ tables_1, d.before a0 Z = true) (ws : List Jvm.Cond) (a1 : Addr) (a2 : Addr) (tx : Addr) (u : Int32) (cs : Int32) (nb : Nat) (h0 : Heap) (n0 : Nat) (Z0 : n0 ≤ h0.size) (A1 : own_asm Z h0 a1) (E2 : Exa Z h0 a2 "com/example/hemotide/hemotide/link/Frame") (Ft : Fld Z h0 a2 "com/example/hemotide/hemotide/link/Frame" "text" "Ljava/lang/String;" (.ref tx)) (Fe : Fld Z h0 a2 "com/example/hemotide/hemotide/link/Frame" "endsRecord" "Z" (.int (0 : Int32))) (S1 : own_txt Z h0 tx u) (hx2 : a2 < a1) (g_a1 : n0 ≤ a1) (hnb : nb ≤ a1) (SC : own_S Z h0 nb "java/lang/String" "COMPACT_STRINGS" "Z" (.int cs)) (hcs : ¬ (cs = (0 : Int32))) :
    MetFree l mn8 (head1 (Jvm.Cond.code mn8 prog_33_method_2_code 5 (some (.object "com/example/hemotide/hemotide/records/AstmMessage")) :: ws) (⟨5, 0, 0, 74⟩ : Room)) (fun a U => a = #[(.ref a1), (.ref a2)] ∧ Z.Warmed39 U.vm ∧ U.heap = h0) (fun _ _ _ _ _ => True) (fun _ U o U' => ∃ v L, o = .returned v ∧ Qown_maa Z a1 a2 tx u cs nb h0 n0 v U'.heap L ∧ FrameEnd U o U' L (⟨5, 0, 0, 74⟩ : Room).cells (⟨5, 0, 0, 74⟩ : Room).slots) := by
  refine MetFree.of_bodySF (plainFor_of_name pn_com_example_hemotide_hemotide_link_MessageAssembler) hisR ?_
  intro p e s m args below meth c s₁ Bd hml0 hP hK
  obtain ⟨rfl, hZ, hh⟩ := hP
  have hx := Bd.exec
  have hby := Bd.bytes
  have hml : c.maxLocals = 5 := hml0
  have hown : s.vm.findClass "com/example/hemotide/hemotide/link/MessageAssembler" = some m.cls := findClass_of_methodNamed Bd.named
  have hnm := (name_of_methodNamed Bd.named Bd.method).1
  have X0 : Stand p l e (⟨5, 0, 0, 74⟩ : Room) s m #[(.ref a1), (.ref a2)] below meth c s₁ [] 0 0 := Stand.of_body Bd
  have e0 : s₁.heap = h0 := by rw [← hh, Bd.state]; rfl
  have N0 := Fr.nil n0
  have pre0 : ∀ t, Steps p.tables e below (s₁.setTop (mkF m 0 #[.val (.ref a1), .val (.ref a2), .unset, .unset, .unset] [])) t → Steps p.tables e below (s₁.setTop (entryFrame m #[(.ref a1), (.ref a2)] 5)) t := fun t k => castTop (ef_own_maa m (a1) (a2)) k
  obtain ⟨sb, E1, M1, M2, M3, B1, lt1⟩ := A1
  obtain ⟨bx, kx, Ex, Gv, Gc, Vx⟩ := id S1
  have w_a1 := Nat.le_refl a1
  obtain ⟨T1, X1, e1, st1⟩ := getF X0 hx hZ hown (host := "") (Or.inl (wJ hw 320 rfl)) Via.refl e0 M2 (g := (mkF m 1 #[.val (.ref a1), .val (.ref a2), .unset, .unset, .unset] [(.ref a1)])) rfl rfl (hb hby d50_1)
  obtain ⟨T2, h2, X2, e2, W2, st2⟩ := putF X1 hx hZ hown (host := "") (Or.inl (wJ hw 320 rfl)) Via.refl e1 M2 E1 (Or.inl (wJ hw 321 rfl)) (wJ hw 71 rfl) (ty := (.object "com/example/hemotide/hemotide/link/Frame")) (by decide) rfl rfl (g := (mkF m 9 #[.val (.ref a1), .val (.ref a2), .unset, .unset, .unset] [(.ref a2), (.ref a1)])) rfl rfl (hb hby d50_9)
  have Fw2 := M2.same W2
  have WW2 : own_W a1 h0 h2 := own_W.wr (own_W.refl a1 h0) W2 w_a1
  have N2 := Fr.snoc X2 N0 g_a1
  have Z2 : n0 ≤ h2.size := Nat.le_trans Z0 (Keep.of_wr W2).1
  have nt : tx ≠ a1 := Exa.ne Ex E1 (by decide)
  have nbx : bx ≠ a1 := Ne.symm (Exa.neArv E1 Vx (wJ hw 71 rfl))
  have S2 : own_txt Z h2 tx u := ⟨bx, kx, Ex.wr W2, Gv.other W2 (Or.inl nt), Gc.other W2 (Or.inl nt), Vx.other W2 nbx⟩
  have B2 := B1.low (Keep.of_wr W2) (allS lt1 all0)
  have SC2 := own_S.mono (Nat.le_of_lt (Nat.lt_of_le_of_lt hnb lt1)) (own_S.W SC (own_W.mono hnb WW2))
  have fc4 := (M1.other W2 (Or.inr (slot_ne (Or.inr (wJ hw 96 rfl)) (Or.inl (wJ hw 321 rfl)) (by decide) (t := (.object "java/lang/StringBuilder")) (t' := (.object "com/example/hemotide/hemotide/link/Frame")) (by decide) (by decide))))
  obtain ⟨T3, X3, e3, st3⟩ := getF X2 hx hZ hown (host := "") (Or.inl (wJ hw 95 rfl)) Via.refl e2 fc4 (g := (mkF m 13 #[.val (.ref a1), .val (.ref a2), .unset, .unset, .unset] [(.ref a1)])) rfl rfl (hb hby d50_13)
  obtain ⟨cq5, kq5, q5a, q5b, q5c⟩ := isOf hZ e3 (own_W.exa E2 hx2 WW2)
  obtain ⟨_, _, ⟨T5, L5, k5, n5⟩, -, X5, ⟨Lc5, hQ5, l5, y5, z5⟩, st5⟩ := X3.virtualBack hx (y := mn6) (z := mn6) hown (mvT hZ (wJ hw 322 rfl)) (mvT hZ (wJ hw 136 rfl)) (notFace_of_selects (args := #[]) (mvT hZ (wJ hw 138 rfl))) (mvT hZ (wJ hw 138 rfl)) (mvT hZ (wJ hw 137 rfl)) (by decide) (backOf (W := 1) (own_ftext l Z a0 hw [] a2 tx h2 n0 Z2 (own_W.fld Ft hx2 WW2)) hZ (wJ hw 139 rfl) (wJ hw 28 rfl) (by decide) (by decide)) q5a q5c (g := (mkF m 17 #[.val (.ref a1), .val (.ref a2), .unset, .unset, .unset] [(.ref a2), (.ref sb)])) rfl (by rw [hml]; rfl) (Steps.refl _) (argsL := []) (rest := [(.ref sb)]) (lenOf pd___Ljava_lang_String_ rfl) rfl (by show 2 * 0 + _ ≤ _; exact Nat.le_of_eq rfl) (hb hby d50_17) (fun _ _ => ⟨rfl, e3, (by decide : 0 + 0 ≤ _), (by decide : 0 + 0 ≤ _)⟩)
  dsimp only [Pt.U, Pt.locs, Pt.cells, Pt.slots] at X5 l5 y5 z5 st5 hQ5
  replace X5 := X5.more (Nat.le_of_eq (show k5 = 0 from y5)) (Nat.le_of_eq (show n5 = 0 from z5))
  obtain ⟨rfl, Nq5, e5⟩ := hQ5
  have N5 : Fr n0 L5 := by rw [l5]; exact Fr.app N2 Nq5
  obtain ⟨cq6, kq6, q6a, q6b, q6c⟩ := isOf hZ e5 B2.exa
  obtain ⟨_, _, ⟨T6, L6, k6, n6⟩, -, X6, ⟨Lc6, hQ6, l6, y6, z6⟩, st6⟩ := X5.virtualBack hx (y := mn39) (z := mn39) hown (mvT hZ (wJ hw 323 rfl)) (mvT hZ (wJ hw 147 rfl)) (notFace_of_selects (args := #[]) (mvT hZ (wJ hw 149 rfl))) (mvT hZ (wJ hw 149 rfl)) (mvT hZ (wJ hw 148 rfl)) (by decide) (backOf (W := 0) (own_sbSN l Z a0 hw [] sb tx (16 : Int32) (0 : Int32) (1 : Int32) cs sb h2 n0 Z2 B2 S2.str (Nat.le_trans g_a1 (Nat.le_of_lt lt1)) (Nat.le_of_lt B2.exa.lt) (by decide) (by decide) (by decide) SC2 hcs) hZ (wJ hw 150 rfl) (wJ hw 79 rfl) (by decide) (by decide)) q6a q6c (g := (mkF m 20 #[.val (.ref a1), .val (.ref a2), .unset, .unset, .unset] [(.ref tx), (.ref sb)])) rfl (by rw [hml]; rfl) (Steps.refl _) (argsL := [(.ref tx)]) (rest := []) (lenOf pd__Ljava_lang_String__Ljava_lang_StringBuilder_ rfl) rfl (by show 2 * 0 + _ ≤ _; exact Nat.le_of_eq rfl) (hb hby d50_20) (fun _ _ => ⟨rfl, e5, (by decide : 0 + 0 ≤ _), (by decide : 0 + 0 ≤ _)⟩)
  dsimp only [Pt.U, Pt.locs, Pt.cells, Pt.slots] at X6 l6 y6 z6 st6 hQ6
  replace X6 := X6.more (Nat.le_of_eq (show k6 = 0 from y6)) (Nat.le_of_eq (show n6 = 0 from z6))
  obtain ⟨rfl, Nq6, Wq6, B3⟩ := hQ6
  have Z6 : n0 ≤ T6.heap.size := Nat.le_trans Z2 Wq6.size
  have WW6 : own_W a1 h0 T6.heap := own_W.trans WW2 (own_W.mono (Nat.le_of_lt lt1) Wq6)
  have N6 : Fr n0 L6 := by rw [l6]; exact Fr.app N5 Nq6
  have fc8 := (own_W.fld fc4 lt1 Wq6)
  obtain ⟨T7, X7, e7, st7⟩ := getF X6 hx hZ hown (host := "") (Or.inl (wJ hw 95 rfl)) Via.refl rfl fc8 (g := (mkF m 25 #[.val (.ref a1), .val (.ref a2), .unset, .unset, .unset] [(.ref a1)])) rfl rfl (hb hby d50_25)
  obtain ⟨cq9, kq9, q9a, q9b, q9c⟩ := isOf hZ e7 B3.exa
  obtain ⟨_, _, ⟨T9, L9, k9, n9⟩, -, X9, ⟨Lc9, hQ9, l9, y9, z9⟩, st9⟩ := X7.virtualBack hx (y := mn40) (z := mn40) hown (mvT hZ (wJ hw 324 rfl)) (mvT hZ (wJ hw 325 rfl)) (notFace_of_selects (args := #[]) (mvT hZ (wJ hw 326 rfl))) (mvT hZ (wJ hw 326 rfl)) (mvT hZ (wJ hw 275 rfl)) (by decide) (backOf (W := 0) (own_lenB l Z a0 hw [] sb ((0 : Int32) + (1 : Int32)) T6.heap n0 Z6 B3.cnt B3.exa) hZ (wJ hw 276 rfl) (wJ hw 79 rfl) (by decide) (by decide)) q9a q9c (g := (mkF m 28 #[.val (.ref a1), .val (.ref a2), .unset, .unset, .unset] [(.ref sb)])) rfl (by rw [hml]; rfl) (Steps.refl _) (argsL := []) (rest := []) (lenOf pd___I rfl) rfl (by show 2 * 0 + _ ≤ _; exact Nat.le_of_eq rfl) (hb hby d50_28) (fun _ _ => ⟨rfl, e7, (by decide : 0 + 0 ≤ _), (by decide : 0 + 0 ≤ _)⟩)
  dsimp only [Pt.U, Pt.locs, Pt.cells, Pt.slots] at X9 l9 y9 z9 st9 hQ9
  replace X9 := X9.more (Nat.le_of_eq (show k9 = 0 from y9)) (Nat.le_of_eq (show n9 = 0 from z9))
  obtain ⟨rfl, Nq9, e9⟩ := hQ9
  have N9 : Fr n0 L9 := by rw [l9]; exact Fr.app N6 Nq9
  obtain ⟨cq10, kq10, q10a, q10b, q10c⟩ := isOf hZ e9 (own_W.exa E2 hx2 WW6)
  obtain ⟨_, _, ⟨T10, L10, k10, n10⟩, -, X10, ⟨Lc10, hQ10, l10, y10, z10⟩, st10⟩ := X9.virtualBack hx (y := mn4) (z := mn4) hown (mvT hZ (wJ hw 327 rfl)) (mvT hZ (wJ hw 328 rfl)) (notFace_of_selects (args := #[]) (mvT hZ (wJ hw 330 rfl))) (mvT hZ (wJ hw 330 rfl)) (mvT hZ (wJ hw 329 rfl)) (by decide) (backOf (W := 0) (own_fendsRecord l Z a0 hw [] a2 (0 : Int32) T6.heap n0 Z6 (own_W.fld Fe hx2 WW6) (Or.inl rfl)) hZ (wJ hw 331 rfl) (wJ hw 28 rfl) (by decide) (by decide)) q10a q10c (g := (mkF m 33 #[.val (.ref a1), .val (.ref a2), .val (.int ((0 : Int32) + (1 : Int32))), .unset, .unset] [(.ref a2)])) rfl (by rw [hml]; rfl) (Steps.refl _) (argsL := []) (rest := []) (lenOf pd___Z rfl) rfl (by show 2 * 0 + _ ≤ _; exact Nat.le_of_eq rfl) (hb hby d50_33) (fun _ _ => ⟨rfl, e9, (by decide : 0 + 0 ≤ _), (by decide : 0 + 0 ≤ _)⟩)
  dsimp only [Pt.U, Pt.locs, Pt.cells, Pt.slots] at X10 l10 y10 z10 st10 hQ10
  replace X10 := X10.more (Nat.le_of_eq (show k10 = 0 from y10)) (Nat.le_of_eq (show n10 = 0 from z10))
  obtain ⟨rfl, Nq10, e10⟩ := hQ10
  have N10 : Fr n0 L10 := by rw [l10]; exact Fr.app N9 Nq10
  have fc12 := (own_W.fld (M3.other W2 (Or.inr (slot_ne (Or.inl (wJ hw 333 rfl)) (Or.inl (wJ hw 321 rfl)) (by decide) (t := .int) (t' := (.object "com/example/hemotide/hemotide/link/Frame")) (by decide) (by decide)))) lt1 Wq6)
  obtain ⟨T11, X11, e11, st11⟩ := getF X10 hx hZ hown (host := "") (Or.inl (wJ hw 332 rfl)) Via.refl e10 fc12 (g := (mkF m 62 #[.val (.ref a1), .val (.ref a2), .val (.int ((0 : Int32) + (1 : Int32))), .unset, .unset] [(.ref a1)])) rfl rfl (hb hby d50_62)
  obtain ⟨cq13, kq13, q13a, q13b, q13c⟩ := isOf hZ e11 (own_W.exa E2 hx2 WW6)
  obtain ⟨_, _, ⟨T13, L13, k13, n13⟩, -, X13, ⟨Lc13, hQ13, l13, y13, z13⟩, st13⟩ := X11.virtualBack hx (y := mn4) (z := mn4) hown (mvT hZ (wJ hw 327 rfl)) (mvT hZ (wJ hw 328 rfl)) (notFace_of_selects (args := #[]) (mvT hZ (wJ hw 330 rfl))) (mvT hZ (wJ hw 330 rfl)) (mvT hZ (wJ hw 329 rfl)) (by decide) (backOf (W := 0) (own_fendsRecord l Z a0 hw [] a2 (0 : Int32) T6.heap n0 Z6 (own_W.fld Fe hx2 WW6) (Or.inl rfl)) hZ (wJ hw 331 rfl) (wJ hw 28 rfl) (by decide) (by decide)) q13a q13c (g := (mkF m 82 #[.val (.ref a1), .val (.ref a2), .val (.int ((0 : Int32) + (1 : Int32))), .unset, .unset] [(.ref a2)])) rfl (by rw [hml]; rfl) (Steps.refl _) (argsL := []) (rest := []) (lenOf pd___Z rfl) rfl (by show 2 * 0 + _ ≤ _; exact Nat.le_of_eq rfl) (hb hby d50_82) (fun _ _ => ⟨rfl, e11, (by decide : 0 + 0 ≤ _), (by decide : 0 + 0 ≤ _)⟩)
  dsimp only [Pt.U, Pt.locs, Pt.cells, Pt.slots] at X13 l13 y13 z13 st13 hQ13
  replace X13 := X13.more (Nat.le_of_eq (show k13 = 0 from y13)) (Nat.le_of_eq (show n13 = 0 from z13))
  obtain ⟨rfl, Nq13, e13⟩ := hQ13
  have N13 : Fr n0 L13 := by rw [l13]; exact Fr.app N10 Nq13
  obtain ⟨fs, hr, hrun, hended, hW, hsame⟩ := X13.leave (v := some .null) (fun h => by rw [Bd.returns] at h; cases h)
  refine ⟨_, _, pre0 _ ?_, hrun, hended, _, _, rfl, ?_, ⟨_, rfl⟩, hW, hsame.mono (by decide) (by decide)⟩
  · show Steps p.tables e below (s₁.setTop (mkF m 0 #[.val (.ref a1), .val (.ref a2), .unset, .unset, .unset] [])) _
    refine XS.aloadN X0.here hx rfl (hb hby d50_0) rfl rfl ?_
    refine st1 _ ?_
    refine XS.ifnonnullNo X1.here hx rfl (hb hby d50_4) rfl ?_
    refine XS.aloadN X1.here hx rfl (hb hby d50_7) rfl rfl ?_
    show Steps _ _ _ (T1.setTop (mkF m 8 #[.val (.ref a1), .val (.ref a2), .unset, .unset, .unset] [(.ref a1)])) _
    refine XS.aloadN X1.here hx rfl (hb hby d50_8) rfl rfl ?_
    refine st2 _ ?_
    refine XS.aloadN X2.here hx rfl (hb hby d50_12) rfl rfl ?_
    refine st3 _ ?_
    show Steps _ _ _ (T3.setTop (mkF m 16 #[.val (.ref a1), .val (.ref a2), .unset, .unset, .unset] [(.ref sb)])) _
    refine XS.aloadN X3.here hx rfl (hb hby d50_16) rfl rfl ?_
    refine st5.trans ?_
    refine st6.trans ?_
    refine XS.pop X6.here hx rfl (hb hby d50_23) rfl rfl ?_
    show Steps _ _ _ (T6.setTop (mkF m 24 #[.val (.ref a1), .val (.ref a2), .unset, .unset, .unset] [])) _
    refine XS.aloadN X6.here hx rfl (hb hby d50_24) rfl rfl ?_
    refine st7 _ ?_
    refine st9.trans ?_
    refine XS.istoreN X9.here hx rfl (hb hby d50_31) rfl (l' := #[.val (.ref a1), .val (.ref a2), .val (.int ((0 : Int32) + (1 : Int32))), .unset, .unset]) rfl ?_
    show Steps _ _ _ (T9.setTop (mkF m 32 #[.val (.ref a1), .val (.ref a2), .val (.int ((0 : Int32) + (1 : Int32))), .unset, .unset] [])) _
    refine XS.aloadN X9.here hx rfl (hb hby d50_32) rfl rfl ?_
    refine st10.trans ?_
    refine XS.ifYes X10.here hx rfl (pc0 := 36) (pc' := 61) rfl (hb hby d50_36) rfl ((if0 _ _).trans (teq (rfl : (0 : Int32) = (0 : Int32))).1) (by decide) (by decide) ?_
    refine XS.aloadN X10.here hx rfl (hb hby d50_61) rfl rfl ?_
    show Steps _ _ _ (T10.setTop (mkF m 62 #[.val (.ref a1), .val (.ref a2), .val (.int ((0 : Int32) + (1 : Int32))), .unset, .unset] [(.ref a1)])) _
    refine st11 _ ?_
    refine XS.iloadN X11.here hx rfl (hb hby d50_65) rfl ?_
    refine XS.iadd X11.here hx rfl (hb hby d50_66) rfl ?_
    refine X11.ldcInt hx hown (mvT hZ (wJ hw 334 rfl)) (g := (mkF m 67 #[.val (.ref a1), .val (.ref a2), .val (.int ((0 : Int32) + (1 : Int32))), .unset, .unset] [(.int ((0 : Int32) + ((0 : Int32) + (1 : Int32))))])) rfl (hb hby d50_67) _ ?_
    show Steps _ _ _ (T11.setTop (mkF m 69 #[.val (.ref a1), .val (.ref a2), .val (.int ((0 : Int32) + (1 : Int32))), .unset, .unset] [(.int (250000 : Int32)), (.int ((0 : Int32) + ((0 : Int32) + (1 : Int32))))])) _
    refine XS.icmpYes X11.here hx rfl (pc0 := 69) (pc' := 81) rfl (hb hby d50_69) rfl (flt (by decide : ¬ ((250000 : Int32) < ((0 : Int32) + ((0 : Int32) + (1 : Int32)))))).2.2.2 (by decide) (by decide) ?_
    refine XS.aloadN X11.here hx rfl (hb hby d50_81) rfl rfl ?_
    refine st13.trans ?_
    refine XS.ifNo X13.here hx rfl (hb hby d50_85) rfl ((if0 _ _).trans (teq (rfl : (0 : Int32) = (0 : Int32))).2) ?_
    show Steps _ _ _ (T13.setTop (mkF m 88 #[.val (.ref a1), .val (.ref a2), .val (.int ((0 : Int32) + (1 : Int32))), .unset, .unset] [])) _
    refine XS.aconstNull X13.here hx rfl (hb hby d50_88) ?_
    show Steps _ _ _ (T13.setTop (mkF m 89 #[.val (.ref a1), .val (.ref a2), .val (.int ((0 : Int32) + (1 : Int32))), .unset, .unset] [.null])) _
    exact retOut X13 hx Bd.returns rfl (Or.inr (Or.inr (Or.inr (Or.inr ⟨rfl, rfl, rfl⟩)))) (hb hby d50_89) hr
  · show Qown_maa Z a1 a2 tx u cs nb h0 n0 _ T13.heap _
    rw [e13]
    exact ⟨rfl, N13, WW6⟩
theorem d48_0 : decode c48 0 = .ok (.aload_n 0, 1) := by decide +kernel
theorem d48_1 : decode c48 1 = .ok (.aload_n 0, 1) := by decide +kernel
theorem d48_2 : decode c48 2 = .ok (.getfield 18, 3) := by decide +kernel
theorem d48_5 : decode c48 5 = .ok (.invokestatic 81, 3) := by decide +kernel
theorem d48_8 : decode c48 8 = .ok (.putfield 18, 3) := by decide +kernel
theorem d48_11 : decode c48 11 = .ok (.aload_n 0, 1) := by decide +kernel
theorem d48_12 : decode c48 12 = .ok (.aload_n 1, 1) := by decide +kernel
theorem d48_13 : decode c48 13 = .ok (.putfield 75, 3) := by decide +kernel
theorem d48_16 : decode c48 16 = .ok (.aload_n 0, 1) := by decide +kernel
theorem d48_17 : decode c48 17 = .ok (.aconst_null, 1) := by decide +kernel
theorem d48_18 : decode c48 18 = .ok (.putfield 55, 3) := by decide +kernel
theorem d48_21 : decode c48 21 = .ok (.aload_n 0, 1) := by decide +kernel
theorem d48_22 : decode c48 22 = .ok (.iconst 0, 1) := by decide +kernel
theorem d48_23 : decode c48 23 = .ok (.putfield 78, 3) := by decide +kernel
theorem d48_26 : decode c48 26 = .ok (.aload_n 0, 1) := by decide +kernel
theorem d48_27 : decode c48 27 = .ok (.getfield 10, 3) := by decide +kernel
theorem d48_30 : decode c48 30 = .ok (.aload_n 1, 1) := by decide +kernel
theorem d48_31 : decode c48 31 = .ok (.invokevirtual 85, 3) := by decide +kernel
theorem pd__Lcom_example_hemotide_hemotide_link_Frame__Lcom_example_hemotide_hemotide_records_AstmMessage_ : parseMethodDescriptor "(Lcom/example/hemotide/hemotide/link/Frame;)Lcom/example/hemotide/hemotide/records/AstmMessage;" = some ⟨[(.object "com/example/hemotide/hemotide/link/Frame")], some (.object "com/example/hemotide/hemotide/records/AstmMessage")⟩ := by decide +kernel
theorem d48_34 : decode c48 34 = .ok (.areturn, 1) := by decide +kernel
theorem ef_own_take (m : MethodId) (x0 : Addr) (x1 : Addr) : entryFrame m #[(.ref x0), (.ref x1)] 2 = mkF m 0 #[.val (.ref x0), .val (.ref x1)] [] := by first | (simp [entryFrame, mkF, argsToLocals, Value.category]; done) | rfl
def Qown_take (Z : State) (a1 : Addr) (a2 : Addr) (asm : Addr) (tx : Addr) (u : Int32) (cs : Int32) (nb : Nat) (h0 : Heap) (n0 : Nat) (v : Option Value) (h : Heap) (L : List Loc) : Prop := v = some .null ∧ Fr n0 L ∧ own_W a1 h0 h ∧ Fld Z h a1 "com/example/hemotide/hemotide/link/Transfer" "due" "I" (.int (2 : Int32)) ∧ Fld Z h a1 "com/example/hemotide/hemotide/link/Transfer" "repeatable" "Lcom/example/hemotide/hemotide/link/Frame;" (.ref a2) ∧ Fld Z h a1 "com/example/hemotide/hemotide/link/Transfer" "awaited" "Lcom/example/hemotide/hemotide/link/Frame;" .null ∧ Fld Z h a1 "com/example/hemotide/hemotide/link/Transfer" "refusedInARow" "I" (.int (0 : Int32))
theorem own_take (l : Launch) (Z : State) (a0 : Array Value) (hw : ∀ d ∈ tables_1, d.before a0 Z = true) (ws : List Jvm.Cond) (a1 : Addr) (a2 : Addr) (asm : Addr) (tx : Addr) (u : Int32) (cs : Int32) (nb : Nat) (h0 : Heap) (n0 : Nat) (Z0 : n0 ≤ h0.size) (E1 : Exa Z h0 a1 "com/example/hemotide/hemotide/link/Transfer") (F0 : Fld Z h0 a1 "com/example/hemotide/hemotide/link/Transfer" "assembler" "Lcom/example/hemotide/hemotide/link/MessageAssembler;" (.ref asm)) (F1 : Fld Z h0 a1 "com/example/hemotide/hemotide/link/Transfer" "due" "I" (.int (1 : Int32))) (F2 : Fld Z h0 a1 "com/example/hemotide/hemotide/link/Transfer" "repeatable" "Lcom/example/hemotide/hemotide/link/Frame;" .null) (F3 : Fld Z h0 a1 "com/example/hemotide/hemotide/link/Transfer" "awaited" "Lcom/example/hemotide/hemotide/link/Frame;" .null) (F4 : Fld Z h0 a1 "com/example/hemotide/hemotide/link/Transfer" "refusedInARow" "I" (.int (0 : Int32))) (A1 : own_asm Z h0 asm) (lta : a1 < asm) (E2 : Exa Z h0 a2 "com/example/hemotide/hemotide/link/Frame") (Ft : Fld Z h0 a2 "com/example/hemotide/hemotide/link/Frame" "text" "Ljava/lang/String;" (.ref tx)) (Fe : Fld Z h0 a2 "com/example/hemotide/hemotide/link/Frame" "endsRecord" "Z" (.int (0 : Int32))) (S1 : own_txt Z h0 tx u) (hx2 : a2 < a1) (g_a1 : n0 ≤ a1) (hnb : nb ≤ a1) (SC : own_S Z h0 nb "java/lang/String" "COMPACT_STRINGS" "Z" (.int cs)) (hcs : ¬ (cs = (0 : Int32))) :
    MetFree l mn13 (head1 (Jvm.Cond.code mn13 prog_35_method_5_code 2 (some (.object "com/example/hemotide/hemotide/records/AstmMessage")) :: ws) (⟨6, 0, 0, 90⟩ : Room)) (fun a U => a = #[(.ref a1), (.ref a2)] ∧ Z.Warmed39 U.vm ∧ U.heap = h0) (fun _ _ _ _ _ => True) (fun _ U o U' => ∃ v L, o = .returned v ∧ Qown_take Z a1 a2 asm tx u cs nb h0 n0 v U'.heap L ∧ FrameEnd U o U' L (⟨6, 0, 0, 90⟩ : Room).cells (⟨6, 0, 0, 90⟩ : Room).slots) := by
  refine MetFree.of_bodySF (plainFor_of_name pn_com_example_hemotide_hemotide_link_Transfer) hisR ?_
  intro p e s m args below meth c s₁ Bd hml0 hP hK
  obtain ⟨rfl, hZ, hh⟩ := hP
  have hx := Bd.exec
  have hby := Bd.bytes
  have hml : c.maxLocals = 2 := hml0
  have hown : s.vm.findClass "com/example/hemotide/hemotide/link/Transfer" = some m.cls := findClass_of_methodNamed Bd.named
  have hnm := (name_of_methodNamed Bd.named Bd.method).1
  have X0 : Stand p l e (⟨6, 0, 0, 90⟩ : Room) s m #[(.ref a1), (.ref a2)] below meth c s₁ [] 0 0 := Stand.of_body Bd
  have e0 : s₁.heap = h0 := by rw [← hh, Bd.state]; rfl
  have N0 := Fr.nil n0
  have pre0 : ∀ t, Steps p.tables e below (s₁.setTop (mkF m 0 #[.val (.ref a1), .val (.ref a2)] [])) t → Steps p.tables e below (s₁.setTop (entryFrame m #[(.ref a1), (.ref a2)] 2)) t := fun t k => castTop (ef_own_take m (a1) (a2)) k
  obtain ⟨bx, kx, Ex, Gv, Gc, Vx⟩ := S1
  have w_a1 := Nat.le_refl a1
  have nt : tx ≠ a1 := Exa.ne Ex E1 (by decide)
  have nbx : bx ≠ a1 := Ne.symm (Exa.neArv E1 Vx (wJ hw 64 rfl))
  obtain ⟨T1, X1, e1, st1⟩ := getF X0 hx hZ hown (host := "") (Or.inl (wJ hw 99 rfl)) Via.refl e0 F1 (g := (mkF m 2 #[.val (.ref a1), .val (.ref a2)] [(.ref a1), (.ref a1)])) rfl rfl (hb hby d48_2)
  obtain ⟨_, _, ⟨T2, L2, k2, n2⟩, -, X2, ⟨Lc2, hQ2, l2, y2, z2⟩, st2⟩ := Jvm.LawKit.callS X1 hx (y := mn0) hown (mvT hZ (wJ hw 311 rfl)) (mvT hZ (wJ hw 312 rfl)) (mvT hZ (wJ hw 313 rfl)) (mvT hZ (wJ hw 314 rfl)) (by decide) (backOf (W := 1) (own_fna l Z a0 hw [] (1 : Int32)  h0 n0 Z0 ) hZ (wJ hw 314 rfl) (wJ hw 313 rfl) (by decide) (by decide)) (g := (mkF m 5 #[.val (.ref a1), .val (.ref a2)] [(.int (1 : Int32)), (.ref a1)])) rfl (by rw [hml]; rfl) (argsL := [(.int (1 : Int32))]) (rest := [(.ref a1)]) (lenOf pd__I_I rfl) rfl (by show 2 * 0 + _ ≤ _; exact Nat.le_of_eq rfl) (hb hby d48_5) (fun _ _ => ⟨rfl, e1, (by decide : 0 + 0 ≤ _), (by decide : 0 + 0 ≤ _)⟩)
  dsimp only [Pt.U, Pt.locs, Pt.cells, Pt.slots] at X2 l2 y2 z2 st2 hQ2
  replace X2 := X2.more (Nat.le_of_eq (show k2 = 0 from y2)) (Nat.le_of_eq (show n2 = 0 from z2))
  obtain ⟨rfl, Nq2, e2⟩ := hQ2
  have N2 : Fr n0 L2 := by rw [l2]; exact Fr.app N0 Nq2
  obtain ⟨T3, h3, X3, e3, W3, st3⟩ := putF X2 hx hZ hown (host := "") (Or.inl (wJ hw 99 rfl)) Via.refl e2 F1 E1 (Or.inl (wJ hw 100 rfl)) (wJ hw 64 rfl) (ty := .int) (by decide) rfl rfl (g := (mkF m 8 #[.val (.ref a1), .val (.ref a2)] [(.int (2 : Int32)), (.ref a1)])) rfl rfl (hb hby d48_8)
  have Fw3 := F1.same W3
  have WW3 : own_W a1 h0 h3 := own_W.wr (own_W.refl a1 h0) W3 w_a1
  have N3 := Fr.snoc X3 N2 g_a1
  have Z3 : n0 ≤ h3.size := Nat.le_trans Z0 (Keep.of_wr W3).1
  have fc5 := (F2.other W3 (Or.inr (slot_ne (Or.inl (wJ hw 114 rfl)) (Or.inl (wJ hw 100 rfl)) (by decide) (t := (.object "com/example/hemotide/hemotide/link/Frame")) (t' := .int) (by decide) (by decide))))
  have fc6 := (E1.wr W3)
  obtain ⟨T4, h4, X4, e4, W4, st4⟩ := putF X3 hx hZ hown (host := "") (Or.inl (wJ hw 113 rfl)) Via.refl e3 fc5 fc6 (Or.inl (wJ hw 114 rfl)) (wJ hw 64 rfl) (ty := (.object "com/example/hemotide/hemotide/link/Frame")) (by decide) rfl rfl (g := (mkF m 13 #[.val (.ref a1), .val (.ref a2)] [(.ref a2), (.ref a1)])) rfl rfl (hb hby d48_13)
  have Fw4 := fc5.same W4
  have WW4 : own_W a1 h0 h4 := own_W.wr WW3 W4 w_a1
  have N4 := Fr.snoc X4 N3 g_a1
  have Z4 : n0 ≤ h4.size := Nat.le_trans Z3 (Keep.of_wr W4).1
  have fc8 := ((F3.other W3 (Or.inr (slot_ne (Or.inl (wJ hw 107 rfl)) (Or.inl (wJ hw 100 rfl)) (by decide) (t := (.object "com/example/hemotide/hemotide/link/Frame")) (t' := .int) (by decide) (by decide)))).other W4 (Or.inr (slot_ne (Or.inl (wJ hw 107 rfl)) (Or.inl (wJ hw 114 rfl)) (by decide) (t := (.object "com/example/hemotide/hemotide/link/Frame")) (t' := (.object "com/example/hemotide/hemotide/link/Frame")) (by decide) (by decide))))
  have fc9 := (fc6.wr W4)
  obtain ⟨T7, h7, X7, e7, W7, st7⟩ := putF X4 hx hZ hown (host := "") (Or.inl (wJ hw 106 rfl)) Via.refl e4 fc8 fc9 (Or.inl (wJ hw 107 rfl)) (wJ hw 64 rfl) (ty := (.object "com/example/hemotide/hemotide/link/Frame")) (by decide) rfl rfl (g := (mkF m 18 #[.val (.ref a1), .val (.ref a2)] [.null, (.ref a1)])) rfl rfl (hb hby d48_18)
  have Fw7 := fc8.same W7
  have WW7 : own_W a1 h0 h7 := own_W.wr WW4 W7 w_a1
  have N7 := Fr.snoc X7 N4 g_a1
  have Z7 : n0 ≤ h7.size := Nat.le_trans Z4 (Keep.of_wr W7).1
  have fc11 := (((F4.other W3 (Or.inr (slot_ne (Or.inl (wJ hw 116 rfl)) (Or.inl (wJ hw 100 rfl)) (by decide) (t := .int) (t' := .int) (by decide) (by decide)))).other W4 (Or.inr (slot_ne (Or.inl (wJ hw 116 rfl)) (Or.inl (wJ hw 114 rfl)) (by decide) (t := .int) (t' := (.object "com/example/hemotide/hemotide/link/Frame")) (by decide) (by decide)))).other W7 (Or.inr (slot_ne (Or.inl (wJ hw 116 rfl)) (Or.inl (wJ hw 107 rfl)) (by decide) (t := .int) (t' := (.object "com/example/hemotide/hemotide/link/Frame")) (by decide) (by decide))))
  have fc12 := (fc9.wr W7)
  obtain ⟨T10, h10, X10, e10, W10, st10⟩ := putF X7 hx hZ hown (host := "") (Or.inl (wJ hw 115 rfl)) Via.refl e7 fc11 fc12 (Or.inl (wJ hw 116 rfl)) (wJ hw 64 rfl) (ty := .int) (by decide) rfl rfl (g := (mkF m 23 #[.val (.ref a1), .val (.ref a2)] [(.int (0 : Int32)), (.ref a1)])) rfl rfl (hb hby d48_23)
  have Fw10 := fc11.same W10
  have WW10 : own_W a1 h0 h10 := own_W.wr WW7 W10 w_a1
  have N10 := Fr.snoc X10 N7 g_a1
  have Z10 : n0 ≤ h10.size := Nat.le_trans Z7 (Keep.of_wr W10).1
  have A2 := (own_asm.low (own_asm.low (own_asm.low (own_asm.low A1 (Keep.of_wr W3) (allS lta all0)) (Keep.of_wr W4) (allS lta all0)) (Keep.of_wr W7) (allS lta all0)) (Keep.of_wr W10) (allS lta all0))
  have EA : Exa Z h10 asm "com/example/hemotide/hemotide/link/MessageAssembler" := by obtain ⟨_, e, _⟩ := A2; exact e
  have fc13 := ((((Ex.wr W3).wr W4).wr W7).wr W10)
  have fc14 := ((((Gv.other W3 (Or.inl nt)).other W4 (Or.inl nt)).other W7 (Or.inl nt)).other W10 (Or.inl nt))
  have fc15 := ((((Gc.other W3 (Or.inl nt)).other W4 (Or.inl nt)).other W7 (Or.inl nt)).other W10 (Or.inl nt))
  have fc16 := ((((Vx.other W3 nbx).other W4 nbx).other W7 nbx).other W10 nbx)
  have S2 : own_txt Z h10 tx u := ⟨bx, kx, fc13, fc14, fc15, fc16⟩
  have SC2 := own_S.W SC (own_W.mono hnb WW10)
  have fc18 := ((((F0.other W3 (Or.inr (slot_ne (Or.inr (wJ hw 98 rfl)) (Or.inl (wJ hw 100 rfl)) (by decide) (t := (.object "com/example/hemotide/hemotide/link/MessageAssembler")) (t' := .int) (by decide) (by decide)))).other W4 (Or.inr (slot_ne (Or.inr (wJ hw 98 rfl)) (Or.inl (wJ hw 114 rfl)) (by decide) (t := (.object "com/example/hemotide/hemotide/link/MessageAssembler")) (t' := (.object "com/example/hemotide/hemotide/link/Frame")) (by decide) (by decide)))).other W7 (Or.inr (slot_ne (Or.inr (wJ hw 98 rfl)) (Or.inl (wJ hw 107 rfl)) (by decide) (t := (.object "com/example/hemotide/hemotide/link/MessageAssembler")) (t' := (.object "com/example/hemotide/hemotide/link/Frame")) (by decide) (by decide)))).other W10 (Or.inr (slot_ne (Or.inr (wJ hw 98 rfl)) (Or.inl (wJ hw 116 rfl)) (by decide) (t := (.object "com/example/hemotide/hemotide/link/MessageAssembler")) (t' := .int) (by decide) (by decide))))
  obtain ⟨T17, X17, e17, st17⟩ := getF X10 hx hZ hown (host := "") (Or.inl (wJ hw 97 rfl)) Via.refl e10 fc18 (g := (mkF m 27 #[.val (.ref a1), .val (.ref a2)] [(.ref a1)])) rfl rfl (hb hby d48_27)
  obtain ⟨cq19, kq19, q19a, q19b, q19c⟩ := isOf hZ e17 EA
  obtain ⟨_, _, ⟨T19, L19, k19, n19⟩, -, X19, ⟨Lc19, hQ19, l19, y19, z19⟩, st19⟩ := X17.virtualBack hx (y := mn8) (z := mn8) hown (mvT hZ (wJ hw 315 rfl)) (mvT hZ (wJ hw 316 rfl)) (notFace_of_selects (args := #[]) (mvT hZ (wJ hw 318 rfl))) (mvT hZ (wJ hw 318 rfl)) (mvT hZ (wJ hw 317 rfl)) (by decide) (backOf (W := 0) (own_maa l Z a0 hw [] asm a2 tx u cs nb h10 n0 Z10 A2 (own_W.exa E2 hx2 WW10) (own_W.fld Ft hx2 WW10) (own_W.fld Fe hx2 WW10) S2 (Nat.lt_trans hx2 lta) (Nat.le_trans g_a1 (Nat.le_of_lt lta)) (Nat.le_trans hnb (Nat.le_of_lt lta)) SC2 hcs) hZ (wJ hw 319 rfl) (wJ hw 72 rfl) (by decide) (by decide)) q19a q19c (g := (mkF m 31 #[.val (.ref a1), .val (.ref a2)] [(.ref a2), (.ref asm)])) rfl (by rw [hml]; rfl) (Steps.refl _) (argsL := [(.ref a2)]) (rest := []) (lenOf pd__Lcom_example_hemotide_hemotide_link_Frame__Lcom_example_hemotide_hemotide_records_AstmMessage_ rfl) rfl (by show 2 * 0 + _ ≤ _; exact Nat.le_of_eq rfl) (hb hby d48_31) (fun _ _ => ⟨rfl, e17, (by decide : 0 + 0 ≤ _), (by decide : 0 + 0 ≤ _)⟩)
  dsimp only [Pt.U, Pt.locs, Pt.cells, Pt.slots] at X19 l19 y19 z19 st19 hQ19
  replace X19 := X19.more (Nat.le_of_eq (show k19 = 0 from y19)) (Nat.le_of_eq (show n19 = 0 from z19))
  obtain ⟨rfl, Nq19, Wq19⟩ := hQ19
  have Z19 : n0 ≤ T19.heap.size := Nat.le_trans Z10 Wq19.size
  have WW19 : own_W a1 h0 T19.heap := own_W.trans WW10 (own_W.mono (Nat.le_of_lt lta) Wq19)
  have N19 : Fr n0 L19 := by rw [l19]; exact Fr.app N10 Nq19
  have fc20 := (own_W.fld (((Fw3.other W4 (Or.inr (slot_ne (Or.inl (wJ hw 100 rfl)) (Or.inl (wJ hw 114 rfl)) (by decide) (t := .int) (t' := (.object "com/example/hemotide/hemotide/link/Frame")) (by decide) (by decide)))).other W7 (Or.inr (slot_ne (Or.inl (wJ hw 100 rfl)) (Or.inl (wJ hw 107 rfl)) (by decide) (t := .int) (t' := (.object "com/example/hemotide/hemotide/link/Frame")) (by decide) (by decide)))).other W10 (Or.inr (slot_ne (Or.inl (wJ hw 100 rfl)) (Or.inl (wJ hw 116 rfl)) (by decide) (t := .int) (t' := .int) (by decide) (by decide)))) lta Wq19)
  have fc21 := (own_W.fld ((Fw4.other W7 (Or.inr (slot_ne (Or.inl (wJ hw 114 rfl)) (Or.inl (wJ hw 107 rfl)) (by decide) (t := (.object "com/example/hemotide/hemotide/link/Frame")) (t' := (.object "com/example/hemotide/hemotide/link/Frame")) (by decide) (by decide)))).other W10 (Or.inr (slot_ne (Or.inl (wJ hw 114 rfl)) (Or.inl (wJ hw 116 rfl)) (by decide) (t := (.object "com/example/hemotide/hemotide/link/Frame")) (t' := .int) (by decide) (by decide)))) lta Wq19)
  have fc22 := (own_W.fld (Fw7.other W10 (Or.inr (slot_ne (Or.inl (wJ hw 107 rfl)) (Or.inl (wJ hw 116 rfl)) (by decide) (t := (.object "com/example/hemotide/hemotide/link/Frame")) (t' := .int) (by decide) (by decide)))) lta Wq19)
  have fc23 := (own_W.fld Fw10 lta Wq19)
  obtain ⟨fs, hr, hrun, hended, hW, hsame⟩ := X19.leave (v := some .null) (fun h => by rw [Bd.returns] at h; cases h)
  refine ⟨_, _, pre0 _ ?_, hrun, hended, _, _, rfl, ?_, ⟨_, rfl⟩, hW, hsame.mono (by decide) (by decide)⟩
  · show Steps p.tables e below (s₁.setTop (mkF m 0 #[.val (.ref a1), .val (.ref a2)] [])) _
    refine XS.aloadN X0.here hx rfl (hb hby d48_0) rfl rfl ?_
    refine XS.aloadN X0.here hx rfl (hb hby d48_1) rfl rfl ?_
    refine st1 _ ?_
    refine st2 _ ?_
    show Steps _ _ _ (T2.setTop (mkF m 8 #[.val (.ref a1), .val (.ref a2)] [(.int (((1 : Int32) + (1 : Int32)) % (8 : Int32))), (.ref a1)])) _
    rw [(by decide : (((1 : Int32) + (1 : Int32)) % (8 : Int32)) = (2 : Int32))]
    show Steps _ _ _ (T2.setTop (mkF m 8 #[.val (.ref a1), .val (.ref a2)] [(.int (2 : Int32)), (.ref a1)])) _
    refine st3 _ ?_
    refine XS.aloadN X3.here hx rfl (hb hby d48_11) rfl rfl ?_
    refine XS.aloadN X3.here hx rfl (hb hby d48_12) rfl rfl ?_
    refine st4 _ ?_
    show Steps _ _ _ (T4.setTop (mkF m 16 #[.val (.ref a1), .val (.ref a2)] [])) _
    refine XS.aloadN X4.here hx rfl (hb hby d48_16) rfl rfl ?_
    refine XS.aconstNull X4.here hx rfl (hb hby d48_17) ?_
    refine st7 _ ?_
    refine XS.aloadN X7.here hx rfl (hb hby d48_21) rfl rfl ?_
    show Steps _ _ _ (T7.setTop (mkF m 22 #[.val (.ref a1), .val (.ref a2)] [(.ref a1)])) _
    refine XS.iconst X7.here hx rfl (hb hby d48_22) ?_
    refine st10 _ ?_
    refine XS.aloadN X10.here hx rfl (hb hby d48_26) rfl rfl ?_
    refine st17 _ ?_
    show Steps _ _ _ (T17.setTop (mkF m 30 #[.val (.ref a1), .val (.ref a2)] [(.ref asm)])) _
    refine XS.aloadN X17.here hx rfl (hb hby d48_30) rfl rfl ?_
    refine st19.trans ?_
    show Steps _ _ _ (T19.setTop (mkF m 34 #[.val (.ref a1), .val (.ref a2)] [.null])) _
    exact retOut X19 hx Bd.returns rfl (Or.inr (Or.inr (Or.inr (Or.inr ⟨rfl, rfl, rfl⟩)))) (hb hby d48_34) hr
  · show Qown_take Z a1 a2 asm tx u cs nb h0 n0 _ T19.heap _
    exact ⟨rfl, N19, WW19, fc20, fc21, fc22, fc23⟩
def own_aw (aw dv : Value) (x : Addr) : Value := if aw = .null ∧ dv = .null then .ref x else aw
def own_rf (c : Int32) : Int32 := if (c + (1 : Int32)) < (6 : Int32) then 0 else 1
theorem d12_0 : decode c12 0 = .ok (.aload_n 0, 1) := by decide +kernel
theorem d12_1 : decode c12 1 = .ok (.getfield 55, 3) := by decide +kernel
theorem d12_4 : decode c12 4 = .ok (.ifnonnull 15, 3) := by decide +kernel
theorem d12_7 : decode c12 7 = .ok (.aload_n 1, 1) := by decide +kernel
theorem d12_8 : decode c12 8 = .ok (.invokevirtual 22, 3) := by decide +kernel
theorem d12_11 : decode c12 11 = .ok (.ifnonnull 8, 3) := by decide +kernel
theorem d12_14 : decode c12 14 = .ok (.aload_n 0, 1) := by decide +kernel
theorem d12_15 : decode c12 15 = .ok (.aload_n 1, 1) := by decide +kernel
theorem d12_16 : decode c12 16 = .ok (.putfield 55, 3) := by decide +kernel
theorem d12_19 : decode c12 19 = .ok (.aload_n 0, 1) := by decide +kernel
theorem d12_20 : decode c12 20 = .ok (.aconst_null, 1) := by decide +kernel
theorem d12_21 : decode c12 21 = .ok (.putfield 75, 3) := by decide +kernel
theorem d12_24 : decode c12 24 = .ok (.aload_n 0, 1) := by decide +kernel
theorem d12_25 : decode c12 25 = .ok (.dup, 1) := by decide +kernel
theorem d12_26 : decode c12 26 = .ok (.getfield 78, 3) := by decide +kernel
theorem d12_29 : decode c12 29 = .ok (.iconst 1, 1) := by decide +kernel
theorem d12_30 : decode c12 30 = .ok (.iadd, 1) := by decide +kernel
theorem d12_31 : decode c12 31 = .ok (.putfield 78, 3) := by decide +kernel
theorem d12_34 : decode c12 34 = .ok (.aload_n 0, 1) := by decide +kernel
theorem d12_35 : decode c12 35 = .ok (.getfield 78, 3) := by decide +kernel
theorem d12_38 : decode c12 38 = .ok (.bipush 6, 2) := by decide +kernel
theorem d12_40 : decode c12 40 = .ok (.if_icmp .lt 7, 3) := by decide +kernel
theorem d12_47 : decode c12 47 = .ok (.iconst 0, 1) := by decide +kernel
theorem d12_48 : decode c12 48 = .ok (.ireturn, 1) := by decide +kernel
theorem d12_43 : decode c12 43 = .ok (.iconst 1, 1) := by decide +kernel
theorem d12_44 : decode c12 44 = .ok (.goto 4, 3) := by decide +kernel
theorem ef_own_refuse (m : MethodId) (x0 : Addr) (x1 : Addr) : entryFrame m #[(.ref x0), (.ref x1)] 2 = mkF m 0 #[.val (.ref x0), .val (.ref x1)] [] := by first | (simp [entryFrame, mkF, argsToLocals, Value.category]; done) | rfl
def Qown_refuse (Z : State) (a1 : Addr) (a2 : Addr) (aw : Value) (rp : Value) (cc : Int32) (dd : Int32) (dv : Value) (h0 : Heap) (n0 : Nat) (v : Option Value) (h : Heap) (L : List Loc) : Prop := v = some (.int (own_rf cc)) ∧ Fr n0 L ∧ Keep h0 h [a1] ∧ Fld Z h a1 "com/example/hemotide/hemotide/link/Transfer" "awaited" "Lcom/example/hemotide/hemotide/link/Frame;" (own_aw aw dv a2) ∧ Fld Z h a1 "com/example/hemotide/hemotide/link/Transfer" "repeatable" "Lcom/example/hemotide/hemotide/link/Frame;" .null ∧ Fld Z h a1 "com/example/hemotide/hemotide/link/Transfer" "refusedInARow" "I" (.int (cc + (1 : Int32))) ∧ Fld Z h a1 "com/example/hemotide/hemotide/link/Transfer" "due" "I" (.int dd)
theorem own_refuse (l : Launch) (Z : State) (a0 : Array Value) (hw : ∀ d ∈ tables_1, d.before a0 Z = true) (ws : List Jvm.Cond) (a1 : Addr) (a2 : Addr) (aw : Value) (rp : Value) (cc : Int32) (dd : Int32) (dv : Value) (h0 : Heap) (n0 : Nat) (Z0 : n0 ≤ h0.size) (E1 : Exa Z h0 a1 "com/example/hemotide/hemotide/link/Transfer") (Fa : Fld Z h0 a1 "com/example/hemotide/hemotide/link/Transfer" "awaited" "Lcom/example/hemotide/hemotide/link/Frame;" aw) (Fp : Fld Z h0 a1 "com/example/hemotide/hemotide/link/Transfer" "repeatable" "Lcom/example/hemotide/hemotide/link/Frame;" rp) (Fc : Fld Z h0 a1 "com/example/hemotide/hemotide/link/Transfer" "refusedInARow" "I" (.int cc)) (Fu : Fld Z h0 a1 "com/example/hemotide/hemotide/link/Transfer" "due" "I" (.int dd)) (E2 : Exa Z h0 a2 "com/example/hemotide/hemotide/link/Frame") (Fd : Fld Z h0 a2 "com/example/hemotide/hemotide/link/Frame" "defect" "Ljava/lang/String;" dv) (haw : aw.isRef = true) (hdv : dv.isRef = true) (g_a1 : n0 ≤ a1) :
    MetFree l mn11 (head1 (Jvm.Cond.code mn11 prog_35_method_4_code 2 (some .boolean) :: ws) (⟨1, 0, 0, 12⟩ : Room)) (fun a U => a = #[(.ref a1), (.ref a2)] ∧ Z.Warmed39 U.vm ∧ U.heap = h0) (fun _ _ _ _ _ => True) (fun _ U o U' => ∃ v L, o = .returned v ∧ Qown_refuse Z a1 a2 aw rp cc dd dv h0 n0 v U'.heap L ∧ FrameEnd U o U' L (⟨1, 0, 0, 12⟩ : Room).cells (⟨1, 0, 0, 12⟩ : Room).slots) := by
  refine MetFree.of_bodySF (plainFor_of_name pn_com_example_hemotide_hemotide_link_Transfer) hisR ?_
  intro p e s m args below meth c s₁ Bd hml0 hP hK
  obtain ⟨rfl, hZ, hh⟩ := hP
  have hx := Bd.exec
  have hby := Bd.bytes
  have hml : c.maxLocals = 2 := hml0
  have hown : s.vm.findClass "com/example/hemotide/hemotide/link/Transfer" = some m.cls := findClass_of_methodNamed Bd.named
  have hnm := (name_of_methodNamed Bd.named Bd.method).1
  have X0 : Stand p l e (⟨1, 0, 0, 12⟩ : Room) s m #[(.ref a1), (.ref a2)] below meth c s₁ [] 0 0 := Stand.of_body Bd
  have e0 : s₁.heap = h0 := by rw [← hh, Bd.state]; rfl
  have N0 := Fr.nil n0
  have pre0 : ∀ t, Steps p.tables e below (s₁.setTop (mkF m 0 #[.val (.ref a1), .val (.ref a2)] [])) t → Steps p.tables e below (s₁.setTop (entryFrame m #[(.ref a1), (.ref a2)] 2)) t := fun t k => castTop (ef_own_refuse m (a1) (a2)) k
  rcases ref_cases haw with h1 | ⟨wa, h1⟩
  · have Fa2 : Fld Z h0 a1 "com/example/hemotide/hemotide/link/Transfer" "awaited" "Lcom/example/hemotide/hemotide/link/Frame;" .null := h1 ▸ Fa
    obtain ⟨T1, X1, e1, st1⟩ := getF X0 hx hZ hown (host := "") (Or.inl (wJ hw 106 rfl)) Via.refl e0 Fa2 (g := (mkF m 1 #[.val (.ref a1), .val (.ref a2)] [(.ref a1)])) rfl rfl (hb hby d12_1)
    obtain ⟨cq2, kq2, q2a, q2b, q2c⟩ := isOf hZ e1 E2
    obtain ⟨_, _, ⟨T2, L2, k2, n2⟩, -, X2, ⟨Lc2, hQ2, l2, y2, z2⟩, st2⟩ := X1.virtualBack hx (y := mn2) (z := mn2) hown (mvT hZ (wJ hw 108 rfl)) (mvT hZ (wJ hw 109 rfl)) (notFace_of_selects (args := #[]) (mvT hZ (wJ hw 111 rfl))) (mvT hZ (wJ hw 111 rfl)) (mvT hZ (wJ hw 110 rfl)) (by decide) (backOf (W := 0) (own_fdefect l Z a0 hw [] a2 dv h0 n0 Z0 Fd hdv) hZ (wJ hw 112 rfl) (wJ hw 28 rfl) (by decide) (by decide)) q2a q2c (g := (mkF m 8 #[.val (.ref a1), .val (.ref a2)] [(.ref a2)])) rfl (by rw [hml]; rfl) (Steps.refl _) (argsL := []) (rest := []) (lenOf pd___Ljava_lang_String_ rfl) rfl (by show 2 * 0 + _ ≤ _; exact Nat.le_of_eq rfl) (hb hby d12_8) (fun _ _ => ⟨rfl, e1, (by decide : 0 + 0 ≤ _), (by decide : 0 + 0 ≤ _)⟩)
    dsimp only [Pt.U, Pt.locs, Pt.cells, Pt.slots] at X2 l2 y2 z2 st2 hQ2
    replace X2 := X2.more (Nat.le_of_eq (show k2 = 0 from y2)) (Nat.le_of_eq (show n2 = 0 from z2))
    obtain ⟨rfl, Nq2, e2⟩ := hQ2
    have N2 : Fr n0 L2 := by rw [l2]; exact Fr.app N0 Nq2
    rcases ref_cases hdv with h2 | ⟨da, h2⟩
    · have eq1 : own_aw aw dv a2 = .ref a2 := if_pos ⟨h1, h2⟩
      obtain ⟨T3, h3, X3, e3, W3, st3⟩ := putF X2 hx hZ hown (host := "") (Or.inl (wJ hw 106 rfl)) Via.refl e2 Fa2 E1 (Or.inl (wJ hw 107 rfl)) (wJ hw 64 rfl) (ty := (.object "com/example/hemotide/hemotide/link/Frame")) (by decide) rfl rfl (g := (mkF m 16 #[.val (.ref a1), .val (.ref a2)] [(.ref a2), (.ref a1)])) rfl rfl (hb hby d12_16)
      have Fw3 := Fa2.same W3
      have K3 : Keep h0 h3 [a1] := (Keep.refl h0 [a1]).wr W3 (Or.inl (wI 0 rfl))
      have N3 := Fr.snoc X3 N2 g_a1
      have Z3 : n0 ≤ h3.size := Nat.le_trans Z0 (Keep.of_wr W3).1
      have fc5 := (Fp.other W3 (Or.inr (slot_ne (Or.inl (wJ hw 114 rfl)) (Or.inl (wJ hw 107 rfl)) (by decide) (t := (.object "com/example/hemotide/hemotide/link/Frame")) (t' := (.object "com/example/hemotide/hemotide/link/Frame")) (by decide) (by decide))))
      have fc6 := (E1.wr W3)
      obtain ⟨T4, h4, X4, e4, W4, st4⟩ := putF X3 hx hZ hown (host := "") (Or.inl (wJ hw 113 rfl)) Via.refl e3 fc5 fc6 (Or.inl (wJ hw 114 rfl)) (wJ hw 64 rfl) (ty := (.object "com/example/hemotide/hemotide/link/Frame")) (by decide) rfl rfl (g := (mkF m 21 #[.val (.ref a1), .val (.ref a2)] [.null, (.ref a1)])) rfl rfl (hb hby d12_21)
      have Fw4 := fc5.same W4
      have K4 : Keep h0 h4 [a1] := K3.wr W4 (Or.inl (wI 0 rfl))
      have N4 := Fr.snoc X4 N3 g_a1
      have Z4 : n0 ≤ h4.size := Nat.le_trans Z3 (Keep.of_wr W4).1
      have fc8 := ((Fc.other W3 (Or.inr (slot_ne (Or.inl (wJ hw 116 rfl)) (Or.inl (wJ hw 107 rfl)) (by decide) (t := .int) (t' := (.object "com/example/hemotide/hemotide/link/Frame")) (by decide) (by decide)))).other W4 (Or.inr (slot_ne (Or.inl (wJ hw 116 rfl)) (Or.inl (wJ hw 114 rfl)) (by decide) (t := .int) (t' := (.object "com/example/hemotide/hemotide/link/Frame")) (by decide) (by decide))))
      obtain ⟨T7, X7, e7, st7⟩ := getF X4 hx hZ hown (host := "") (Or.inl (wJ hw 115 rfl)) Via.refl e4 fc8 (g := (mkF m 26 #[.val (.ref a1), .val (.ref a2)] [(.ref a1), (.ref a1)])) rfl rfl (hb hby d12_26)
      have fc10 := (fc6.wr W4)
      obtain ⟨T9, h9, X9, e9, W9, st9⟩ := putF X7 hx hZ hown (host := "") (Or.inl (wJ hw 115 rfl)) Via.refl e7 fc8 fc10 (Or.inl (wJ hw 116 rfl)) (wJ hw 64 rfl) (ty := .int) (by decide) rfl rfl (g := (mkF m 31 #[.val (.ref a1), .val (.ref a2)] [(.int (cc + (1 : Int32))), (.ref a1)])) rfl rfl (hb hby d12_31)
      have Fw9 := fc8.same W9
      have K9 : Keep h0 h9 [a1] := K4.wr W9 (Or.inl (wI 0 rfl))
      have N9 := Fr.snoc X9 N4 g_a1
      have Z9 : n0 ≤ h9.size := Nat.le_trans Z4 (Keep.of_wr W9).1
      obtain ⟨T11, X11, e11, st11⟩ := getF X9 hx hZ hown (host := "") (Or.inl (wJ hw 115 rfl)) Via.refl e9 Fw9 (g := (mkF m 35 #[.val (.ref a1), .val (.ref a2)] [(.ref a1)])) rfl rfl (hb hby d12_35)
      have fc12 := ((Fw3.other W4 (Or.inr (slot_ne (Or.inl (wJ hw 107 rfl)) (Or.inl (wJ hw 114 rfl)) (by decide) (t := (.object "com/example/hemotide/hemotide/link/Frame")) (t' := (.object "com/example/hemotide/hemotide/link/Frame")) (by decide) (by decide)))).other W9 (Or.inr (slot_ne (Or.inl (wJ hw 107 rfl)) (Or.inl (wJ hw 116 rfl)) (by decide) (t := (.object "com/example/hemotide/hemotide/link/Frame")) (t' := .int) (by decide) (by decide))))
      have fc13 := (Fw4.other W9 (Or.inr (slot_ne (Or.inl (wJ hw 114 rfl)) (Or.inl (wJ hw 116 rfl)) (by decide) (t := (.object "com/example/hemotide/hemotide/link/Frame")) (t' := .int) (by decide) (by decide))))
      have fc14 := (((Fu.other W3 (Or.inr (slot_ne (Or.inl (wJ hw 100 rfl)) (Or.inl (wJ hw 107 rfl)) (by decide) (t := .int) (t' := (.object "com/example/hemotide/hemotide/link/Frame")) (by decide) (by decide)))).other W4 (Or.inr (slot_ne (Or.inl (wJ hw 100 rfl)) (Or.inl (wJ hw 114 rfl)) (by decide) (t := .int) (t' := (.object "com/example/hemotide/hemotide/link/Frame")) (by decide) (by decide)))).other W9 (Or.inr (slot_ne (Or.inl (wJ hw 100 rfl)) (Or.inl (wJ hw 116 rfl)) (by decide) (t := .int) (t' := .int) (by decide) (by decide))))
      by_cases hc : (cc + (1 : Int32)) < (6 : Int32)
      · obtain ⟨fs, hr, hrun, hended, hW, hsame⟩ := X11.leave (v := some (.int (0 : Int32))) (fun h => by rw [Bd.returns] at h; cases h)
        refine ⟨_, _, pre0 _ ?_, hrun, hended, _, _, rfl, ?_, ⟨_, rfl⟩, hW, hsame.mono (by decide) (by decide)⟩
        · show Steps p.tables e below (s₁.setTop (mkF m 0 #[.val (.ref a1), .val (.ref a2)] [])) _
          refine XS.aloadN X0.here hx rfl (hb hby d12_0) rfl rfl ?_
          refine st1 _ ?_
          refine XS.ifnonnullNo X1.here hx rfl (hb hby d12_4) rfl ?_
          refine XS.aloadN X1.here hx rfl (hb hby d12_7) rfl rfl ?_
          show Steps _ _ _ (T1.setTop (mkF m 8 #[.val (.ref a1), .val (.ref a2)] [(.ref a2)])) _
          refine st2.trans ?_
          show Steps _ _ _ (T2.setTop (mkF m 11 #[.val (.ref a1), .val (.ref a2)] [dv])) _
          rw [h2]
          show Steps _ _ _ (T2.setTop (mkF m 11 #[.val (.ref a1), .val (.ref a2)] [.null])) _
          refine XS.ifnonnullNo X2.here hx rfl (hb hby d12_11) rfl ?_
          refine XS.aloadN X2.here hx rfl (hb hby d12_14) rfl rfl ?_
          refine XS.aloadN X2.here hx rfl (hb hby d12_15) rfl rfl ?_
          refine st3 _ ?_
          show Steps _ _ _ (T3.setTop (mkF m 19 #[.val (.ref a1), .val (.ref a2)] [])) _
          refine XS.aloadN X3.here hx rfl (hb hby d12_19) rfl rfl ?_
          refine XS.aconstNull X3.here hx rfl (hb hby d12_20) ?_
          refine st4 _ ?_
          refine XS.aloadN X4.here hx rfl (hb hby d12_24) rfl rfl ?_
          show Steps _ _ _ (T4.setTop (mkF m 25 #[.val (.ref a1), .val (.ref a2)] [(.ref a1)])) _
          refine XS.dup X4.here hx rfl (hb hby d12_25) rfl rfl ?_
          refine st7 _ ?_
          refine XS.iconst X7.here hx rfl (hb hby d12_29) ?_
          refine XS.iadd X7.here hx rfl (hb hby d12_30) rfl ?_
          show Steps _ _ _ (T7.setTop (mkF m 31 #[.val (.ref a1), .val (.ref a2)] [(.int (cc + (1 : Int32))), (.ref a1)])) _
          refine st9 _ ?_
          refine XS.aloadN X9.here hx rfl (hb hby d12_34) rfl rfl ?_
          refine st11 _ ?_
          refine XS.bipush X11.here hx rfl (hb hby d12_38) ?_
          show Steps _ _ _ (T11.setTop (mkF m 40 #[.val (.ref a1), .val (.ref a2)] [(.int (6 : Int32)), (.int (cc + (1 : Int32)))])) _
          refine XS.icmpYes X11.here hx rfl (pc0 := 40) (pc' := 47) rfl (hb hby d12_40) rfl (tlt (hc : (cc + (1 : Int32)) < (6 : Int32))).1 (by decide) (by decide) ?_
          refine XS.iconst X11.here hx rfl (hb hby d12_47) ?_
          show Steps _ _ _ (T11.setTop (mkF m 48 #[.val (.ref a1), .val (.ref a2)] [(.int (0 : Int32))])) _
          exact retN X11 hx (t := .boolean) Bd.returns (by simp) (hb hby d12_48) hr
        · show Qown_refuse Z a1 a2 aw rp cc dd dv h0 n0 _ T11.heap _
          rw [e11]
          exact ⟨by simp [own_rf, hc], N9, K9, by rw [eq1]; exact fc12, fc13, Fw9, fc14⟩
      · obtain ⟨fs, hr, hrun, hended, hW, hsame⟩ := X11.leave (v := some (.int (1 : Int32))) (fun h => by rw [Bd.returns] at h; cases h)
        refine ⟨_, _, pre0 _ ?_, hrun, hended, _, _, rfl, ?_, ⟨_, rfl⟩, hW, hsame.mono (by decide) (by decide)⟩
        · show Steps p.tables e below (s₁.setTop (mkF m 0 #[.val (.ref a1), .val (.ref a2)] [])) _
          refine XS.aloadN X0.here hx rfl (hb hby d12_0) rfl rfl ?_
          refine st1 _ ?_
          refine XS.ifnonnullNo X1.here hx rfl (hb hby d12_4) rfl ?_
          refine XS.aloadN X1.here hx rfl (hb hby d12_7) rfl rfl ?_
          show Steps _ _ _ (T1.setTop (mkF m 8 #[.val (.ref a1), .val (.ref a2)] [(.ref a2)])) _
          refine st2.trans ?_
          show Steps _ _ _ (T2.setTop (mkF m 11 #[.val (.ref a1), .val (.ref a2)] [dv])) _
          rw [h2]
          show Steps _ _ _ (T2.setTop (mkF m 11 #[.val (.ref a1), .val (.ref a2)] [.null])) _
          refine XS.ifnonnullNo X2.here hx rfl (hb hby d12_11) rfl ?_
          refine XS.aloadN X2.here hx rfl (hb hby d12_14) rfl rfl ?_
          refine XS.aloadN X2.here hx rfl (hb hby d12_15) rfl rfl ?_
          refine st3 _ ?_
          show Steps _ _ _ (T3.setTop (mkF m 19 #[.val (.ref a1), .val (.ref a2)] [])) _
          refine XS.aloadN X3.here hx rfl (hb hby d12_19) rfl rfl ?_
          refine XS.aconstNull X3.here hx rfl (hb hby d12_20) ?_
          refine st4 _ ?_
          refine XS.aloadN X4.here hx rfl (hb hby d12_24) rfl rfl ?_
          show Steps _ _ _ (T4.setTop (mkF m 25 #[.val (.ref a1), .val (.ref a2)] [(.ref a1)])) _
          refine XS.dup X4.here hx rfl (hb hby d12_25) rfl rfl ?_
          refine st7 _ ?_
          refine XS.iconst X7.here hx rfl (hb hby d12_29) ?_
          refine XS.iadd X7.here hx rfl (hb hby d12_30) rfl ?_
          show Steps _ _ _ (T7.setTop (mkF m 31 #[.val (.ref a1), .val (.ref a2)] [(.int (cc + (1 : Int32))), (.ref a1)])) _
          refine st9 _ ?_
          refine XS.aloadN X9.here hx rfl (hb hby d12_34) rfl rfl ?_
          refine st11 _ ?_
          refine XS.bipush X11.here hx rfl (hb hby d12_38) ?_
          show Steps _ _ _ (T11.setTop (mkF m 40 #[.val (.ref a1), .val (.ref a2)] [(.int (6 : Int32)), (.int (cc + (1 : Int32)))])) _
          refine XS.icmpNo X11.here hx rfl (hb hby d12_40) rfl (flt (hc : ¬ ((cc + (1 : Int32)) < (6 : Int32)))).1 ?_
          refine XS.iconst X11.here hx rfl (hb hby d12_43) ?_
          refine XS.goto X11.here hx rfl (pc0 := 44) (pc' := 48) rfl (hb hby d12_44) (by decide) (by decide) ?_
          show Steps _ _ _ (T11.setTop (mkF m 48 #[.val (.ref a1), .val (.ref a2)] [(.int (1 : Int32))])) _
          exact retN X11 hx (t := .boolean) Bd.returns (by simp) (hb hby d12_48) hr
        · show Qown_refuse Z a1 a2 aw rp cc dd dv h0 n0 _ T11.heap _
          rw [e11]
          exact ⟨by simp [own_rf, hc], N9, K9, by rw [eq1]; exact fc12, fc13, Fw9, fc14⟩
    · have eq1 : own_aw aw dv a2 = .null := (if_neg fun q => by rw [h2] at q; cases q.2).trans h1
      obtain ⟨T15, h15, X15, e15, W15, st15⟩ := putF X2 hx hZ hown (host := "") (Or.inl (wJ hw 113 rfl)) Via.refl e2 Fp E1 (Or.inl (wJ hw 114 rfl)) (wJ hw 64 rfl) (ty := (.object "com/example/hemotide/hemotide/link/Frame")) (by decide) rfl rfl (g := (mkF m 21 #[.val (.ref a1), .val (.ref a2)] [.null, (.ref a1)])) rfl rfl (hb hby d12_21)
      have Fw15 := Fp.same W15
      have K15 : Keep h0 h15 [a1] := (Keep.refl h0 [a1]).wr W15 (Or.inl (wI 0 rfl))
      have N15 := Fr.snoc X15 N2 g_a1
      have Z15 : n0 ≤ h15.size := Nat.le_trans Z0 (Keep.of_wr W15).1
      have fc17 := (Fc.other W15 (Or.inr (slot_ne (Or.inl (wJ hw 116 rfl)) (Or.inl (wJ hw 114 rfl)) (by decide) (t := .int) (t' := (.object "com/example/hemotide/hemotide/link/Frame")) (by decide) (by decide))))
      obtain ⟨T16, X16, e16, st16⟩ := getF X15 hx hZ hown (host := "") (Or.inl (wJ hw 115 rfl)) Via.refl e15 fc17 (g := (mkF m 26 #[.val (.ref a1), .val (.ref a2)] [(.ref a1), (.ref a1)])) rfl rfl (hb hby d12_26)
      have fc19 := (E1.wr W15)
      obtain ⟨T18, h18, X18, e18, W18, st18⟩ := putF X16 hx hZ hown (host := "") (Or.inl (wJ hw 115 rfl)) Via.refl e16 fc17 fc19 (Or.inl (wJ hw 116 rfl)) (wJ hw 64 rfl) (ty := .int) (by decide) rfl rfl (g := (mkF m 31 #[.val (.ref a1), .val (.ref a2)] [(.int (cc + (1 : Int32))), (.ref a1)])) rfl rfl (hb hby d12_31)
      have Fw18 := fc17.same W18
      have K18 : Keep h0 h18 [a1] := K15.wr W18 (Or.inl (wI 0 rfl))
      have N18 := Fr.snoc X18 N15 g_a1
      have Z18 : n0 ≤ h18.size := Nat.le_trans Z15 (Keep.of_wr W18).1
      obtain ⟨T20, X20, e20, st20⟩ := getF X18 hx hZ hown (host := "") (Or.inl (wJ hw 115 rfl)) Via.refl e18 Fw18 (g := (mkF m 35 #[.val (.ref a1), .val (.ref a2)] [(.ref a1)])) rfl rfl (hb hby d12_35)
      have fc21 := ((Fa2.other W15 (Or.inr (slot_ne (Or.inl (wJ hw 107 rfl)) (Or.inl (wJ hw 114 rfl)) (by decide) (t := (.object "com/example/hemotide/hemotide/link/Frame")) (t' := (.object "com/example/hemotide/hemotide/link/Frame")) (by decide) (by decide)))).other W18 (Or.inr (slot_ne (Or.inl (wJ hw 107 rfl)) (Or.inl (wJ hw 116 rfl)) (by decide) (t := (.object "com/example/hemotide/hemotide/link/Frame")) (t' := .int) (by decide) (by decide))))
      have fc22 := (Fw15.other W18 (Or.inr (slot_ne (Or.inl (wJ hw 114 rfl)) (Or.inl (wJ hw 116 rfl)) (by decide) (t := (.object "com/example/hemotide/hemotide/link/Frame")) (t' := .int) (by decide) (by decide))))
      have fc23 := ((Fu.other W15 (Or.inr (slot_ne (Or.inl (wJ hw 100 rfl)) (Or.inl (wJ hw 114 rfl)) (by decide) (t := .int) (t' := (.object "com/example/hemotide/hemotide/link/Frame")) (by decide) (by decide)))).other W18 (Or.inr (slot_ne (Or.inl (wJ hw 100 rfl)) (Or.inl (wJ hw 116 rfl)) (by decide) (t := .int) (t' := .int) (by decide) (by decide))))
      by_cases hc : (cc + (1 : Int32)) < (6 : Int32)
      · obtain ⟨fs, hr, hrun, hended, hW, hsame⟩ := X20.leave (v := some (.int (0 : Int32))) (fun h => by rw [Bd.returns] at h; cases h)
        refine ⟨_, _, pre0 _ ?_, hrun, hended, _, _, rfl, ?_, ⟨_, rfl⟩, hW, hsame.mono (by decide) (by decide)⟩
        · show Steps p.tables e below (s₁.setTop (mkF m 0 #[.val (.ref a1), .val (.ref a2)] [])) _
          refine XS.aloadN X0.here hx rfl (hb hby d12_0) rfl rfl ?_
          refine st1 _ ?_
          refine XS.ifnonnullNo X1.here hx rfl (hb hby d12_4) rfl ?_
          refine XS.aloadN X1.here hx rfl (hb hby d12_7) rfl rfl ?_
          show Steps _ _ _ (T1.setTop (mkF m 8 #[.val (.ref a1), .val (.ref a2)] [(.ref a2)])) _
          refine st2.trans ?_
          show Steps _ _ _ (T2.setTop (mkF m 11 #[.val (.ref a1), .val (.ref a2)] [dv])) _
          rw [h2]
          show Steps _ _ _ (T2.setTop (mkF m 11 #[.val (.ref a1), .val (.ref a2)] [(.ref da)])) _
          refine XS.ifnonnullYes X2.here hx rfl (pc0 := 11) (pc' := 19) rfl (hb hby d12_11) rfl (by decide) (by decide) ?_
          refine XS.aloadN X2.here hx rfl (hb hby d12_19) rfl rfl ?_
          refine XS.aconstNull X2.here hx rfl (hb hby d12_20) ?_
          refine st15 _ ?_
          show Steps _ _ _ (T15.setTop (mkF m 24 #[.val (.ref a1), .val (.ref a2)] [])) _
          refine XS.aloadN X15.here hx rfl (hb hby d12_24) rfl rfl ?_
          refine XS.dup X15.here hx rfl (hb hby d12_25) rfl rfl ?_
          refine st16 _ ?_
          refine XS.iconst X16.here hx rfl (hb hby d12_29) ?_
          show Steps _ _ _ (T16.setTop (mkF m 30 #[.val (.ref a1), .val (.ref a2)] [(.int (1 : Int32)), (.int cc), (.ref a1)])) _
          refine XS.iadd X16.here hx rfl (hb hby d12_30) rfl ?_
          refine st18 _ ?_
          refine XS.aloadN X18.here hx rfl (hb hby d12_34) rfl rfl ?_
          refine st20 _ ?_
          show Steps _ _ _ (T20.setTop (mkF m 38 #[.val (.ref a1), .val (.ref a2)] [(.int (cc + (1 : Int32)))])) _
          refine XS.bipush X20.here hx rfl (hb hby d12_38) ?_
          refine XS.icmpYes X20.here hx rfl (pc0 := 40) (pc' := 47) rfl (hb hby d12_40) rfl (tlt (hc : (cc + (1 : Int32)) < (6 : Int32))).1 (by decide) (by decide) ?_
          refine XS.iconst X20.here hx rfl (hb hby d12_47) ?_
          show Steps _ _ _ (T20.setTop (mkF m 48 #[.val (.ref a1), .val (.ref a2)] [(.int (0 : Int32))])) _
          exact retN X20 hx (t := .boolean) Bd.returns (by simp) (hb hby d12_48) hr
        · show Qown_refuse Z a1 a2 aw rp cc dd dv h0 n0 _ T20.heap _
          rw [e20]
          exact ⟨by simp [own_rf, hc], N18, K18, by rw [eq1]; exact fc21, fc22, Fw18, fc23⟩
      · obtain ⟨fs, hr, hrun, hended, hW, hsame⟩ := X20.leave (v := some (.int (1 : Int32))) (fun h => by rw [Bd.returns] at h; cases h)
        refine ⟨_, _, pre0 _ ?_, hrun, hended, _, _, rfl, ?_, ⟨_, rfl⟩, hW, hsame.mono (by decide) (by decide)⟩
        · show Steps p.tables e below (s₁.setTop (mkF m 0 #[.val (.ref a1), .val (.ref a2)] [])) _
          refine XS.aloadN X0.here hx rfl (hb hby d12_0) rfl rfl ?_
          refine st1 _ ?_
          refine XS.ifnonnullNo X1.here hx rfl (hb hby d12_4) rfl ?_
          refine XS.aloadN X1.here hx rfl (hb hby d12_7) rfl rfl ?_
          show Steps _ _ _ (T1.setTop (mkF m 8 #[.val (.ref a1), .val (.ref a2)] [(.ref a2)])) _
          refine st2.trans ?_
          show Steps _ _ _ (T2.setTop (mkF m 11 #[.val (.ref a1), .val (.ref a2)] [dv])) _
          rw [h2]
          show Steps _ _ _ (T2.setTop (mkF m 11 #[.val (.ref a1), .val (.ref a2)] [(.ref da)])) _
          refine XS.ifnonnullYes X2.here hx rfl (pc0 := 11) (pc' := 19) rfl (hb hby d12_11) rfl (by decide) (by decide) ?_
          refine XS.aloadN X2.here hx rfl (hb hby d12_19) rfl rfl ?_
          refine XS.aconstNull X2.here hx rfl (hb hby d12_20) ?_
          refine st15 _ ?_
          show Steps _ _ _ (T15.setTop (mkF m 24 #[.val (.ref a1), .val (.ref a2)] [])) _
          refine XS.aloadN X15.here hx rfl (hb hby d12_24) rfl rfl ?_
          refine XS.dup X15.here hx rfl (hb hby d12_25) rfl rfl ?_
          refine st16 _ ?_
          refine XS.iconst X16.here hx rfl (hb hby d12_29) ?_
          show Steps _ _ _ (T16.setTop (mkF m 30 #[.val (.ref a1), .val (.ref a2)] [(.int (1 : Int32)), (.int cc), (.ref a1)])) _
          refine XS.iadd X16.here hx rfl (hb hby d12_30) rfl ?_
          refine st18 _ ?_
          refine XS.aloadN X18.here hx rfl (hb hby d12_34) rfl rfl ?_
          refine st20 _ ?_
          show Steps _ _ _ (T20.setTop (mkF m 38 #[.val (.ref a1), .val (.ref a2)] [(.int (cc + (1 : Int32)))])) _
          refine XS.bipush X20.here hx rfl (hb hby d12_38) ?_
          refine XS.icmpNo X20.here hx rfl (hb hby d12_40) rfl (flt (hc : ¬ ((cc + (1 : Int32)) < (6 : Int32)))).1 ?_
          refine XS.iconst X20.here hx rfl (hb hby d12_43) ?_
          refine XS.goto X20.here hx rfl (pc0 := 44) (pc' := 48) rfl (hb hby d12_44) (by decide) (by decide) ?_
          show Steps _ _ _ (T20.setTop (mkF m 48 #[.val (.ref a1), .val (.ref a2)] [(.int (1 : Int32))])) _
          exact retN X20 hx (t := .boolean) Bd.returns (by simp) (hb hby d12_48) hr
        · show Qown_refuse Z a1 a2 aw rp cc dd dv h0 n0 _ T20.heap _
          rw [e20]
          exact ⟨by simp [own_rf, hc], N18, K18, by rw [eq1]; exact fc21, fc22, Fw18, fc23⟩
  · have Fa2 : Fld Z h0 a1 "com/example/hemotide/hemotide/link/Transfer" "awaited" "Lcom/example/hemotide/hemotide/link/Frame;" (.ref wa) := h1 ▸ Fa
    have eq1 : own_aw aw dv a2 = .ref wa := (if_neg fun q => by rw [h1] at q; cases q.1).trans h1
    obtain ⟨T24, X24, e24, st24⟩ := getF X0 hx hZ hown (host := "") (Or.inl (wJ hw 106 rfl)) Via.refl e0 Fa2 (g := (mkF m 1 #[.val (.ref a1), .val (.ref a2)] [(.ref a1)])) rfl rfl (hb hby d12_1)
    obtain ⟨T25, h25, X25, e25, W25, st25⟩ := putF X24 hx hZ hown (host := "") (Or.inl (wJ hw 113 rfl)) Via.refl e24 Fp E1 (Or.inl (wJ hw 114 rfl)) (wJ hw 64 rfl) (ty := (.object "com/example/hemotide/hemotide/link/Frame")) (by decide) rfl rfl (g := (mkF m 21 #[.val (.ref a1), .val (.ref a2)] [.null, (.ref a1)])) rfl rfl (hb hby d12_21)
    have Fw25 := Fp.same W25
    have K25 : Keep h0 h25 [a1] := (Keep.refl h0 [a1]).wr W25 (Or.inl (wI 0 rfl))
    have N25 := Fr.snoc X25 N0 g_a1
    have Z25 : n0 ≤ h25.size := Nat.le_trans Z0 (Keep.of_wr W25).1
    have fc27 := (Fc.other W25 (Or.inr (slot_ne (Or.inl (wJ hw 116 rfl)) (Or.inl (wJ hw 114 rfl)) (by decide) (t := .int) (t' := (.object "com/example/hemotide/hemotide/link/Frame")) (by decide) (by decide))))
    obtain ⟨T26, X26, e26, st26⟩ := getF X25 hx hZ hown (host := "") (Or.inl (wJ hw 115 rfl)) Via.refl e25 fc27 (g := (mkF m 26 #[.val (.ref a1), .val (.ref a2)] [(.ref a1), (.ref a1)])) rfl rfl (hb hby d12_26)
    have fc29 := (E1.wr W25)
    obtain ⟨T28, h28, X28, e28, W28, st28⟩ := putF X26 hx hZ hown (host := "") (Or.inl (wJ hw 115 rfl)) Via.refl e26 fc27 fc29 (Or.inl (wJ hw 116 rfl)) (wJ hw 64 rfl) (ty := .int) (by decide) rfl rfl (g := (mkF m 31 #[.val (.ref a1), .val (.ref a2)] [(.int (cc + (1 : Int32))), (.ref a1)])) rfl rfl (hb hby d12_31)
    have Fw28 := fc27.same W28
    have K28 : Keep h0 h28 [a1] := K25.wr W28 (Or.inl (wI 0 rfl))
    have N28 := Fr.snoc X28 N25 g_a1
    have Z28 : n0 ≤ h28.size := Nat.le_trans Z25 (Keep.of_wr W28).1
    obtain ⟨T30, X30, e30, st30⟩ := getF X28 hx hZ hown (host := "") (Or.inl (wJ hw 115 rfl)) Via.refl e28 Fw28 (g := (mkF m 35 #[.val (.ref a1), .val (.ref a2)] [(.ref a1)])) rfl rfl (hb hby d12_35)
    have fc31 := ((Fa2.other W25 (Or.inr (slot_ne (Or.inl (wJ hw 107 rfl)) (Or.inl (wJ hw 114 rfl)) (by decide) (t := (.object "com/example/hemotide/hemotide/link/Frame")) (t' := (.object "com/example/hemotide/hemotide/link/Frame")) (by decide) (by decide)))).other W28 (Or.inr (slot_ne (Or.inl (wJ hw 107 rfl)) (Or.inl (wJ hw 116 rfl)) (by decide) (t := (.object "com/example/hemotide/hemotide/link/Frame")) (t' := .int) (by decide) (by decide))))
    have fc32 := (Fw25.other W28 (Or.inr (slot_ne (Or.inl (wJ hw 114 rfl)) (Or.inl (wJ hw 116 rfl)) (by decide) (t := (.object "com/example/hemotide/hemotide/link/Frame")) (t' := .int) (by decide) (by decide))))
    have fc33 := ((Fu.other W25 (Or.inr (slot_ne (Or.inl (wJ hw 100 rfl)) (Or.inl (wJ hw 114 rfl)) (by decide) (t := .int) (t' := (.object "com/example/hemotide/hemotide/link/Frame")) (by decide) (by decide)))).other W28 (Or.inr (slot_ne (Or.inl (wJ hw 100 rfl)) (Or.inl (wJ hw 116 rfl)) (by decide) (t := .int) (t' := .int) (by decide) (by decide))))
    by_cases hc : (cc + (1 : Int32)) < (6 : Int32)
    · obtain ⟨fs, hr, hrun, hended, hW, hsame⟩ := X30.leave (v := some (.int (0 : Int32))) (fun h => by rw [Bd.returns] at h; cases h)
      refine ⟨_, _, pre0 _ ?_, hrun, hended, _, _, rfl, ?_, ⟨_, rfl⟩, hW, hsame.mono (by decide) (by decide)⟩
      · show Steps p.tables e below (s₁.setTop (mkF m 0 #[.val (.ref a1), .val (.ref a2)] [])) _
        refine XS.aloadN X0.here hx rfl (hb hby d12_0) rfl rfl ?_
        refine st24 _ ?_
        refine XS.ifnonnullYes X24.here hx rfl (pc0 := 4) (pc' := 19) rfl (hb hby d12_4) rfl (by decide) (by decide) ?_
        refine XS.aloadN X24.here hx rfl (hb hby d12_19) rfl rfl ?_
        show Steps _ _ _ (T24.setTop (mkF m 20 #[.val (.ref a1), .val (.ref a2)] [(.ref a1)])) _
        refine XS.aconstNull X24.here hx rfl (hb hby d12_20) ?_
        refine st25 _ ?_
        refine XS.aloadN X25.here hx rfl (hb hby d12_24) rfl rfl ?_
        refine XS.dup X25.here hx rfl (hb hby d12_25) rfl rfl ?_
        show Steps _ _ _ (T25.setTop (mkF m 26 #[.val (.ref a1), .val (.ref a2)] [(.ref a1), (.ref a1)])) _
        refine st26 _ ?_
        refine XS.iconst X26.here hx rfl (hb hby d12_29) ?_
        refine XS.iadd X26.here hx rfl (hb hby d12_30) rfl ?_
        refine st28 _ ?_
        show Steps _ _ _ (T28.setTop (mkF m 34 #[.val (.ref a1), .val (.ref a2)] [])) _
        refine XS.aloadN X28.here hx rfl (hb hby d12_34) rfl rfl ?_
        refine st30 _ ?_
        refine XS.bipush X30.here hx rfl (hb hby d12_38) ?_
        refine XS.icmpYes X30.here hx rfl (pc0 := 40) (pc' := 47) rfl (hb hby d12_40) rfl (tlt (hc : (cc + (1 : Int32)) < (6 : Int32))).1 (by decide) (by decide) ?_
        show Steps _ _ _ (T30.setTop (mkF m 47 #[.val (.ref a1), .val (.ref a2)] [])) _
        refine XS.iconst X30.here hx rfl (hb hby d12_47) ?_
        show Steps _ _ _ (T30.setTop (mkF m 48 #[.val (.ref a1), .val (.ref a2)] [(.int (0 : Int32))])) _
        exact retN X30 hx (t := .boolean) Bd.returns (by simp) (hb hby d12_48) hr
      · show Qown_refuse Z a1 a2 aw rp cc dd dv h0 n0 _ T30.heap _
        rw [e30]
        exact ⟨by simp [own_rf, hc], N28, K28, by rw [eq1]; exact fc31, fc32, Fw28, fc33⟩
    · obtain ⟨fs, hr, hrun, hended, hW, hsame⟩ := X30.leave (v := some (.int (1 : Int32))) (fun h => by rw [Bd.returns] at h; cases h)
      refine ⟨_, _, pre0 _ ?_, hrun, hended, _, _, rfl, ?_, ⟨_, rfl⟩, hW, hsame.mono (by decide) (by decide)⟩
      · show Steps p.tables e below (s₁.setTop (mkF m 0 #[.val (.ref a1), .val (.ref a2)] [])) _
        refine XS.aloadN X0.here hx rfl (hb hby d12_0) rfl rfl ?_
        refine st24 _ ?_
        refine XS.ifnonnullYes X24.here hx rfl (pc0 := 4) (pc' := 19) rfl (hb hby d12_4) rfl (by decide) (by decide) ?_
        refine XS.aloadN X24.here hx rfl (hb hby d12_19) rfl rfl ?_
        show Steps _ _ _ (T24.setTop (mkF m 20 #[.val (.ref a1), .val (.ref a2)] [(.ref a1)])) _
        refine XS.aconstNull X24.here hx rfl (hb hby d12_20) ?_
        refine st25 _ ?_
        refine XS.aloadN X25.here hx rfl (hb hby d12_24) rfl rfl ?_
        refine XS.dup X25.here hx rfl (hb hby d12_25) rfl rfl ?_
        show Steps _ _ _ (T25.setTop (mkF m 26 #[.val (.ref a1), .val (.ref a2)] [(.ref a1), (.ref a1)])) _
        refine st26 _ ?_
        refine XS.iconst X26.here hx rfl (hb hby d12_29) ?_
        refine XS.iadd X26.here hx rfl (hb hby d12_30) rfl ?_
        refine st28 _ ?_
        show Steps _ _ _ (T28.setTop (mkF m 34 #[.val (.ref a1), .val (.ref a2)] [])) _
        refine XS.aloadN X28.here hx rfl (hb hby d12_34) rfl rfl ?_
        refine st30 _ ?_
        refine XS.bipush X30.here hx rfl (hb hby d12_38) ?_
        refine XS.icmpNo X30.here hx rfl (hb hby d12_40) rfl (flt (hc : ¬ ((cc + (1 : Int32)) < (6 : Int32)))).1 ?_
        show Steps _ _ _ (T30.setTop (mkF m 43 #[.val (.ref a1), .val (.ref a2)] [])) _
        refine XS.iconst X30.here hx rfl (hb hby d12_43) ?_
        refine XS.goto X30.here hx rfl (pc0 := 44) (pc' := 48) rfl (hb hby d12_44) (by decide) (by decide) ?_
        show Steps _ _ _ (T30.setTop (mkF m 48 #[.val (.ref a1), .val (.ref a2)] [(.int (1 : Int32))])) _
        exact retN X30 hx (t := .boolean) Bd.returns (by simp) (hb hby d12_48) hr
      · show Qown_refuse Z a1 a2 aw rp cc dd dv h0 n0 _ T30.heap _
        rw [e30]
        exact ⟨by simp [own_rf, hc], N28, K28, by rw [eq1]; exact fc31, fc32, Fw28, fc33⟩
theorem d47_0 : decode c47 0 = .ok (.aload_n 0, 1) := by decide +kernel
theorem d47_1 : decode c47 1 = .ok (.getfield 75, 3) := by decide +kernel
theorem d47_4 : decode c47 4 = .ok (.ifnull 38, 3) := by decide +kernel
theorem d47_42 : decode c47 42 = .ok (.iconst 0, 1) := by decide +kernel
theorem d47_43 : decode c47 43 = .ok (.ireturn, 1) := by decide +kernel
theorem ef_own_repeats (m : MethodId) (x0 : Addr) (x1 : Addr) : entryFrame m #[(.ref x0), (.ref x1)] 2 = mkF m 0 #[.val (.ref x0), .val (.ref x1)] [] := by first | (simp [entryFrame, mkF, argsToLocals, Value.category]; done) | rfl
def Qown_repeats (Z : State) (a1 : Addr) (a2 : Addr) (h0 : Heap) (n0 : Nat) (v : Option Value) (h : Heap) (L : List Loc) : Prop := v = some (.int (0 : Int32)) ∧ Fr n0 L ∧ h = h0
theorem own_repeats (l : Launch) (Z : State) (a0 : Array Value) (hw : ∀ d ∈ tables_1, d.before a0 Z = true) (ws : List Jvm.Cond) (a1 : Addr) (a2 : Addr) (h0 : Heap) (n0 : Nat) (Z0 : n0 ≤ h0.size) (Fp : Fld Z h0 a1 "com/example/hemotide/hemotide/link/Transfer" "repeatable" "Lcom/example/hemotide/hemotide/link/Frame;" .null) :
    MetFree l mn12 (head1 (Jvm.Cond.code mn12 prog_35_method_3_code 2 (some .boolean) :: ws) (⟨0, 0, 0, 0⟩ : Room)) (fun a U => a = #[(.ref a1), (.ref a2)] ∧ Z.Warmed39 U.vm ∧ U.heap = h0) (fun _ _ _ _ _ => True) (fun _ U o U' => ∃ v L, o = .returned v ∧ Qown_repeats Z a1 a2 h0 n0 v U'.heap L ∧ FrameEnd U o U' L (⟨0, 0, 0, 0⟩ : Room).cells (⟨0, 0, 0, 0⟩ : Room).slots) := by
  refine MetFree.of_bodySF (plainFor_of_name pn_com_example_hemotide_hemotide_link_Transfer) hisR ?_
  intro p e s m args below meth c s₁ Bd hml0 hP hK
  obtain ⟨rfl, hZ, hh⟩ := hP
  have hx := Bd.exec
  have hby := Bd.bytes
  have hml : c.maxLocals = 2 := hml0
  have hown : s.vm.findClass "com/example/hemotide/hemotide/link/Transfer" = some m.cls := findClass_of_methodNamed Bd.named
  have hnm := (name_of_methodNamed Bd.named Bd.method).1
  have X0 : Stand p l e (⟨0, 0, 0, 0⟩ : Room) s m #[(.ref a1), (.ref a2)] below meth c s₁ [] 0 0 := Stand.of_body Bd
  have e0 : s₁.heap = h0 := by rw [← hh, Bd.state]; rfl
  have N0 := Fr.nil n0
  have pre0 : ∀ t, Steps p.tables e below (s₁.setTop (mkF m 0 #[.val (.ref a1), .val (.ref a2)] [])) t → Steps p.tables e below (s₁.setTop (entryFrame m #[(.ref a1), (.ref a2)] 2)) t := fun t k => castTop (ef_own_repeats m (a1) (a2)) k
  obtain ⟨T1, X1, e1, st1⟩ := getF X0 hx hZ hown (host := "") (Or.inl (wJ hw 113 rfl)) Via.refl e0 Fp (g := (mkF m 1 #[.val (.ref a1), .val (.ref a2)] [(.ref a1)])) rfl rfl (hb hby d47_1)
  obtain ⟨fs, hr, hrun, hended, hW, hsame⟩ := X1.leave (v := some (.int (0 : Int32))) (fun h => by rw [Bd.returns] at h; cases h)
  refine ⟨_, _, pre0 _ ?_, hrun, hended, _, _, rfl, ?_, ⟨_, rfl⟩, hW, hsame.mono (by decide) (by decide)⟩
  · show Steps p.tables e below (s₁.setTop (mkF m 0 #[.val (.ref a1), .val (.ref a2)] [])) _
    refine XS.aloadN X0.here hx rfl (hb hby d47_0) rfl rfl ?_
    refine st1 _ ?_
    refine XS.ifnullYes X1.here hx rfl (pc0 := 4) (pc' := 42) rfl (hb hby d47_4) rfl (by decide) (by decide) ?_
    refine XS.iconst X1.here hx rfl (hb hby d47_42) ?_
    show Steps _ _ _ (T1.setTop (mkF m 43 #[.val (.ref a1), .val (.ref a2)] [(.int (0 : Int32))])) _
    exact retN X1 hx (t := .boolean) Bd.returns (by simp) (hb hby d47_43) hr
  · show Qown_repeats Z a1 a2 h0 n0 _ T1.heap _
    rw [e1]
    exact ⟨rfl, N0, rfl⟩
def own_vs (t : String) : List Value := t.toList.map fun c => Value.int (Jvm.Lit.byteI c.toNat.toUInt16)
theorem own_ht {t : String} (q : ∀ c ∈ t.toList, c.toNat < 256) : (∀ c ∈ t.toList, c.toNat < 256) ∧ t.toList.map (fun c => Value.int (Jvm.Lit.byteI c.toNat.toUInt16)) = own_vs t := ⟨q, rfl⟩
def own_tx (c : Option Jvm.Cond) : String := match c with | some (.stringLink _ _ t) => t | _ => ""
def own_T143 : String := own_tx tables_1[143]?
def own_T200 : String := own_tx tables_1[200]?
def own_T227 : String := own_tx tables_1[227]?
def own_T230 : String := own_tx tables_1[230]?
def own_T289 : String := own_tx tables_1[289]?
def own_T305 : String := own_tx tables_1[305]?
theorem own_wSof {Z : State} {a0 : Array Value} (hw : ∀ d ∈ tables_1, d.before a0 Z = true) : ∀ d ∈ Bundle.stringAtoms, d.before a0 Z = true := fun d hd => by
  simp only [Bundle.stringAtoms, List.mem_cons, List.not_mem_nil, or_false] at hd
  rcases hd with rfl | rfl | rfl | rfl | rfl | rfl | rfl
  · exact (wJ hw 2 rfl)
  · exact (wJ hw 10 rfl)
  · exact (wJ hw 14 rfl)
  · exact (wJ hw 23 rfl)
  · exact (wJ hw 25 rfl)
  · exact (wJ hw 144 rfl)
  · exact (wJ hw 145 rfl)
theorem own_W.keep0 {h h' : Heap} (W : own_W h.size h h') : Keep h h' [] := by
  obtain ⟨ws, K, q⟩ := W
  exact ⟨K.1, fun x c hx _ => K.2.1 x c hx fun z => Nat.not_lt.mpr (q x z) (Array.getElem?_eq_some_iff.mp hx).1, K.2.2⟩
theorem own_sb.cast {Z : State} {h : Heap} {nb : Nat} {a : Addr} {c c' n n' : Int32} (e1 : c = c') (e2 : n = n') (S : own_sb Z h nb a c n) : own_sb Z h nb a c' n' := e1 ▸ e2 ▸ S
theorem own_Frm {n n' : Nat} {L : List Loc} (q : n ≤ n') (F : Fr n' L) : Fr n L := fun y hy => Nat.le_trans q (F y hy)
theorem own_IB {Z s : State} {vm : Vm} {Ts : List String} (I : IB Z s.vm Ts) (W : s.WarmedH vm) : IB Z vm Ts := by
  obtain ⟨more, e, hm⟩ := I
  exact ⟨more, by rw [W.interned_eq]; exact e, hm⟩
theorem own_IBmono {Z : State} {vm : Vm} {Ts Ts' : List String} (I : IB Z vm Ts) (q : ∀ t ∈ Ts, t ∈ Ts') : IB Z vm Ts' := by
  obtain ⟨more, e, hm⟩ := I
  exact ⟨more, e, fun x hx => by obtain ⟨t, ht, hd⟩ := hm x hx; exact ⟨t, q t ht, hd⟩⟩
theorem own_backS {p : Program} {l : Launch} {e : Env} {R : Room} {s : State} {args : Array Value} {below : List Frame} {Z : State} {a0 : Array Value} {h : Heap} {y : MethodName} {bytes : ByteArray} {maxL : Nat} {ret : Option FieldType} {rm : Room} {len W : Nat} {as' : Array Value} {Q : Option Value → Heap → List Loc → Prop} {Ts Ts' : List String}
    (hM : MetFree l y (head1 [Cond.code y bytes maxL ret] rm) (fun a U => a = as' ∧ Z.Warmed39 U.vm ∧ U.heap = h ∧ IB Z U.vm Ts) (fun _ _ _ _ _ => True) (fun _ U o U' => ∃ v L, o = .returned v ∧ Q v U'.heap L ∧ IB Z U'.vm Ts' ∧ ReturnedEndW U o U' L rm.cells rm.slots))
    (hZ : Z.Warmed39 s.vm) (I : IB Z s.vm Ts) (wc : (Cond.code y bytes maxL ret).before a0 Z = true) (wz : (Cond.initialized y.cls).before a0 Z = true) (hf : rm.frames + 1 ≤ R.frames) (hl : W + (maxL + 11) + rm.locals ≤ R.locals) :
    BackS l R p e below s args y len W (fun A a => a = as' ∧ A.U.heap = h ∧ A.cells + rm.cells ≤ R.cells ∧ A.slots + rm.slots ≤ R.slots)
      (fun A _ v B => ∃ L, Q v B.U.heap L ∧ IB Z B.U.vm Ts' ∧ B.locs = A.locs ++ L ∧ B.cells = A.cells + rm.cells ∧ B.slots = A.slots + rm.slots) :=
  BackS.of_freeW (bytes := bytes) (maxL := maxL) (ret := ret) (E := fun _ _ o t L k n => k = rm.cells ∧ n = rm.slots ∧ ∃ v, o = .returned v ∧ Q v t.heap L ∧ IB Z t.vm Ts') hM hf hl
    (fun m meth c A a Y hp => have hU : Z.Warmed39 A.U.vm := wtrans hZ Y.warmed
      ⟨by show (Cond.and _ .tt).before a A.U = true; rw [Cond.before_and, mv hU wc]; rfl, mv hU wc, mv hU wz, hp.2.2.1, hp.2.2.2⟩)
    (fun m meth c A a g mk Y hp => ⟨hp.1, wtrans hZ Y.warmed, hp.2.1, own_IB I Y.warmed⟩) (fun _ _ _ _ _ _ _ _ _ => trivial)
    (fun _ _ _ _ ⟨v, L, h1, h2, h3, h4⟩ => ⟨L, _, _, h4, rfl, rfl, v, h1, h2, h3⟩)
    (fun m meth c A a g mk v t L k n Y hp _ _ ⟨e1, e2, v', e3, e4, e5⟩ => by cases e3; subst e1 e2; exact ⟨L, e4, e5, rfl, rfl, rfl⟩)
theorem d27_0 : decode c27 0 = .ok (.new 37, 3) := by decide +kernel
theorem d27_3 : decode c27 3 = .ok (.dup, 1) := by decide +kernel
theorem d27_4 : decode c27 4 = .ok (.invokespecial 39, 3) := by decide +kernel
theorem d27_7 : decode c27 7 = .ok (.ldc 40, 2) := by decide +kernel
theorem d27_9 : decode c27 9 = .ok (.invokevirtual 42, 3) := by decide +kernel
theorem d27_12 : decode c27 12 = .ok (.aload_n 0, 1) := by decide +kernel
theorem d27_13 : decode c27 13 = .ok (.getfield 7, 3) := by decide +kernel
theorem d27_16 : decode c27 16 = .ok (.invokevirtual 46, 3) := by decide +kernel
theorem pd__J_Ljava_lang_StringBuilder_ : parseMethodDescriptor "(J)Ljava/lang/StringBuilder;" = some ⟨[.long], some (.object "java/lang/StringBuilder")⟩ := by decide +kernel
theorem d27_19 : decode c27 19 = .ok (.ldc 49, 2) := by decide +kernel
theorem d27_21 : decode c27 21 = .ok (.invokevirtual 42, 3) := by decide +kernel
theorem d27_24 : decode c27 24 = .ok (.aload_n 0, 1) := by decide +kernel
theorem d27_25 : decode c27 25 = .ok (.getfield 13, 3) := by decide +kernel
theorem d27_28 : decode c27 28 = .ok (.invokevirtual 46, 3) := by decide +kernel
theorem d27_31 : decode c27 31 = .ok (.ldc 51, 2) := by decide +kernel
theorem d27_33 : decode c27 33 = .ok (.invokevirtual 42, 3) := by decide +kernel
theorem d27_36 : decode c27 36 = .ok (.invokevirtual 53, 3) := by decide +kernel
theorem d27_39 : decode c27 39 = .ok (.areturn, 1) := by decide +kernel
theorem ef_own_desc (m : MethodId) (x0 : Addr) : entryFrame m #[(.ref x0)] 1 = mkF m 0 #[.val (.ref x0)] [] := by first | (simp [entryFrame, mkF, argsToLocals, Value.category]; done) | rfl
def Qown_desc (Z : State) (a1 : Addr) (qp : Int64) (qo : Int64) (d1 : Addr) (d2 : Addr) (kd1 : ClassId) (kd2 : ClassId) (vo : List Value) (vt : List Value) (cs : Int32) (nb : Nat) (h0 : Heap) (n0 : Nat) (v : Option Value) (h : Heap) (L : List Loc) : Prop := (∃ t : Addr, v = some (.ref t) ∧ Fr n0 L ∧ Keep h0 h [] ∧ own_str Z h t (17 : Int32))
theorem own_desc (l : Launch) (Z : State) (a0 : Array Value) (hw : ∀ d ∈ tables_1, d.before a0 Z = true) (ws : List Jvm.Cond) (a1 : Addr) (qp : Int64) (qo : Int64) (d1 : Addr) (d2 : Addr) (kd1 : ClassId) (kd2 : ClassId) (vo : List Value) (vt : List Value) (cs : Int32) (nb : Nat) (h0 : Heap) (n0 : Nat) (Z0 : n0 ≤ h0.size) (hn0 : n0 = h0.size) (hold : ∀ (b : Addr) (cl : Cell), Z.heap[b]? = some cl → h0[b]? = some cl) (HC : ∀ q ∈ consts_1, Jvm.Lit.constHeld Z q.1 q.2) (HCW : Jvm.Lit.compactW.before a0 Z = true) (hnb : nb ≤ h0.size) (hqp : qp = (2 : Int64) ∨ qp = (3 : Int64)) (hqo : qo = (10 : Int64) ∨ qo = (20 : Int64)) (EA : Exa Z h0 a1 "com/example/hemotide/hemotide/link/Frame") (Fp : Fld Z h0 a1 "com/example/hemotide/hemotide/link/Frame" "position" "J" (.long qp)) (Fo : Fld Z h0 a1 "com/example/hemotide/hemotide/link/Frame" "offset" "J" (.long qo)) (SO : own_S Z h0 nb "java/lang/Integer" "DigitOnes" "[B" (.ref d1)) (ST : own_S Z h0 nb "java/lang/Integer" "DigitTens" "[B" (.ref d2)) (VO : Arv Z h0 d1 kd1 .byte (100 : Int32) vo (.int (0 : Int32))) (VT : Arv Z h0 d2 kd2 .byte (100 : Int32) vt (.int (0 : Int32))) (hd1 : d1 < nb) (hd2 : d2 < nb) (SC : own_S Z h0 nb "java/lang/String" "COMPACT_STRINGS" "Z" (.int cs)) (hcs : ¬ (cs = (0 : Int32))) :
    MetFree l mn3 (head1 (Jvm.Cond.code mn3 prog_22_method_2_code 1 (some (.object "java/lang/String")) :: ws) (⟨6, 11, 237, 91⟩ : Room)) (fun a U => a = #[(.ref a1)] ∧ Z.Warmed39 U.vm ∧ U.heap = h0 ∧ IB Z U.vm [own_T143, own_T305]) (fun _ _ _ _ _ => True) (fun _ U o U' => ∃ v L, o = .returned v ∧ Qown_desc Z a1 qp qo d1 d2 kd1 kd2 vo vt cs nb h0 n0 v U'.heap L ∧ IB Z U'.vm [own_T230, own_T227, own_T200, own_T143, own_T305] ∧ ReturnedEndW U o U' L (⟨6, 11, 237, 91⟩ : Room).cells (⟨6, 11, 237, 91⟩ : Room).slots) := by
  refine MetFree.of_bodySF (plainFor_of_name pn_com_example_hemotide_hemotide_link_Frame) hisR ?_
  intro p e s m args below meth c s₁ Bd hml0 hP hK
  obtain ⟨rfl, hZ, hh, IBs⟩ := hP
  have hx := Bd.exec
  have hby := Bd.bytes
  have hml : c.maxLocals = 1 := hml0
  have hown : s.vm.findClass "com/example/hemotide/hemotide/link/Frame" = some m.cls := findClass_of_methodNamed Bd.named
  have hnm := (name_of_methodNamed Bd.named Bd.method).1
  have X0 : Stand p l e (⟨6, 11, 237, 91⟩ : Room) s m #[(.ref a1)] below meth c s₁ [] 0 0 := Stand.of_body Bd
  have e0 : s₁.heap = h0 := by rw [← hh, Bd.state]; rfl
  have N0 := Fr.nil n0
  have X0 : Stand p l e (⟨6, 11, 237, 91⟩ : Room) (s.setVm s.vm) m #[(.ref a1)] below meth c s₁ [] 0 0 := X0
  have hS : s.Since s.vm h0.size := (State.WarmedH.refl s).since _
  obtain ⟨ks, hks⟩ : ∃ z, z = h0.size := ⟨_, rfl⟩
  rw [← hks] at hS
  have hk0 : ks ≤ h0.size := Nat.le_of_eq hks
  have own_wS : ∀ d ∈ Bundle.stringAtoms, d.before a0 Z = true := own_wSof hw
  have pre0 : ∀ t, Steps p.tables e below (s₁.setTop (mkF m 0 #[.val (.ref a1)] [])) t → Steps p.tables e below (s₁.setTop (entryFrame m #[(.ref a1)] 1)) t := fun t k => castTop (ef_own_desc m (a1)) k
  have SC0 := own_S.mono hnb SC
  have SO0 := own_S.mono hnb SO
  have ST0 := own_S.mono hnb ST
  have ld1 := Nat.lt_of_lt_of_le hd1 hnb
  have ld2 := Nat.lt_of_lt_of_le hd2 hnb
  obtain ⟨T1, h1, X1, e1, E1, A1, D1, -, st1⟩ := newO X0 hx hZ hown (wJ hw 198 rfl) (wJ hw 78 rfl) (wJ hw 79 rfl) e0 (g := (mkF m 0 #[.val (.ref a1)] [])) rfl (hb hby d27_0) (by decide) (by decide)
  obtain ⟨b1, g1⟩ : ∃ z, z = h0.size := ⟨_, rfl⟩
  rw [← g1] at A1 D1 st1
  have g_b1 : n0 ≤ b1 := Nat.le_trans Z0 (Nat.le_of_eq g1.symm)
  have sz_b1 : h0.size ≤ b1 := Nat.le_trans (own_W.refl h0.size h0).size (Nat.le_of_eq g1.symm)
  have Z1 : n0 ≤ h1.size := Nat.le_trans Z0 E1.1
  have hk1 : ks ≤ h1.size := Nat.le_trans hk0 E1.1
  have WW1 : own_W h0.size h0 h1 := own_W.ext (own_W.refl h0.size h0) E1
  have F_value_b1 : Fld Z h1 b1 "java/lang/AbstractStringBuilder" "value" "[B" .null := D1 (Or.inl (wJ hw 92 rfl)) (ty := (.array .byte)) (by decide)
  have F_coder_b1 : Fld Z h1 b1 "java/lang/AbstractStringBuilder" "coder" "B" (.int (0 : Int32)) := D1 (Or.inl (wJ hw 94 rfl)) (ty := .byte) (by decide)
  have F_count_b1 : Fld Z h1 b1 "java/lang/AbstractStringBuilder" "count" "I" (.int (0 : Int32)) := D1 (Or.inl (wJ hw 167 rfl)) (ty := .int) (by decide)
  have w_b1 := sz_b1
  obtain ⟨_, _, ⟨T2, L2, k2, n2⟩, -, X2, ⟨Lc2, hQ2, l2, y2, z2⟩, st2⟩ := X1.specialBack hx (y := mn37) rfl hown (mvT hZ (wJ hw 199 rfl)) (mvT hZ (wJ hw 81 rfl)) (mvT hZ (wJ hw 82 rfl)) (by decide) (backOf (W := 1) (own_sbi l Z a0 hw [] b1 cs h0.size h1 n0 Z1 F_value_b1 F_coder_b1 F_count_b1 A1 sz_b1 Z0 WW1.size (own_S.W SC0 WW1) hcs) hZ (wJ hw 82 rfl) (wJ hw 79 rfl) (by decide) (by decide)) (g := (mkF m 4 #[.val (.ref a1)] [(.ref b1), (.ref b1)])) rfl (by rw [hml]; rfl) (Steps.refl _) (a := b1) (argsL := []) (rest := [(.ref b1)]) (lenOf pd___V rfl) rfl (by show 2 * 0 + _ ≤ _; exact Nat.le_of_eq rfl) (hb hby d27_4) (fun _ _ => ⟨rfl, e1, (by decide : 1 + 1 ≤ _), (by decide : 4 + 16 ≤ _)⟩)
  dsimp only [Pt.U, Pt.locs, Pt.cells, Pt.slots] at X2 l2 y2 z2 st2 hQ2
  replace X2 := X2.more (Nat.le_of_eq (show k2 = 2 from y2)) (Nat.le_of_eq (show n2 = 20 from z2))
  obtain ⟨rfl, Nq2, Kq2, B0⟩ := hQ2
  have Z2 : n0 ≤ T2.heap.size := Nat.le_trans Z1 Kq2.1
  have hk2 : ks ≤ T2.heap.size := Nat.le_trans hk1 Kq2.1
  have WW2 : own_W h0.size h0 T2.heap := own_W.keep WW1 Kq2 (allS w_b1 all0)
  have N2 : Fr n0 L2 := by rw [l2]; exact Fr.app N0 Nq2
  obtain ⟨sa3, T3, h3, ks, sb3, sk3, X3, e3, E3, hS, hks3, hZ, hown, Ea3, Fc3, Fv3, V3, lta3, ltb3, IBs, Lit3, st3⟩ := ldcSVL (text := own_T200) X2 hx hZ hown (wJ hw 200 rfl) own_wS rfl hS hk2 (by rw [hh]; exact hn0 ▸ N2) (fun b cl q => by rw [hh]; exact hold b cl q) IBs (by decide +kernel) (HC _ (wI 0 rfl)) HCW (vs := own_vs own_T200) (z := (6 : Int32)) (own_ht (by decide +kernel)) (by decide) (by decide +kernel) (g := (mkF m 7 #[.val (.ref a1)] [(.ref b1)])) rfl (hb hby d27_7) (n := 24) (by decide +kernel) (by decide) (by decide) (by decide)
  have Z3 : n0 ≤ h3.size := Nat.le_trans Z2 E3.1
  have WW3 : own_W h0.size h0 h3 := own_W.ext WW2 E3
  have S3 : own_str Z h3 sa3 (6 : Int32) := ⟨sb3, sk3, _, Ea3, Fv3, Fc3, V3, by decide +kernel⟩
  have Bk3 := B0.keep ((Keep.refl _ []).ext E3)
  obtain ⟨cq4, kq4, q4a, q4b, q4c⟩ := isOf hZ e3 Bk3.exa
  obtain ⟨_, _, ⟨T4, L4, k4, n4⟩, -, X4, ⟨Lc4, hQ4, l4, y4, z4⟩, st4⟩ := X3.virtualBack hx (y := mn39) (z := mn39) hown (mvT hZ (wJ hw 201 rfl)) (mvT hZ (wJ hw 147 rfl)) (notFace_of_selects (args := #[]) (mvT hZ (wJ hw 149 rfl))) (mvT hZ (wJ hw 149 rfl)) (mvT hZ (wJ hw 148 rfl)) (by decide) (backOf (W := 0) (own_sbSN l Z a0 hw [] b1 sa3 (16 : Int32) (0 : Int32) (6 : Int32) cs h0.size h3 n0 Z3 Bk3 S3 Z0 WW3.size (by decide) (by decide) (by decide) (own_S.W SC0 WW3) hcs) hZ (wJ hw 150 rfl) (wJ hw 79 rfl) (by decide) (by decide)) q4a q4c (g := (mkF m 9 #[.val (.ref a1)] [(.ref sa3), (.ref b1)])) rfl (by rw [hml]; rfl) (Steps.refl _) (argsL := [(.ref sa3)]) (rest := []) (lenOf pd__Ljava_lang_String__Ljava_lang_StringBuilder_ rfl) rfl (by show 2 * 0 + _ ≤ _; exact Nat.le_of_eq rfl) (hb hby d27_9) (fun _ _ => ⟨rfl, e3, (by decide : 4 + 0 ≤ _), (by decide : 48 + 0 ≤ _)⟩)
  dsimp only [Pt.U, Pt.locs, Pt.cells, Pt.slots] at X4 l4 y4 z4 st4 hQ4
  replace X4 := X4.more (Nat.le_of_eq (show k4 = 4 from y4)) (Nat.le_of_eq (show n4 = 48 from z4))
  obtain ⟨rfl, Nq4, Wq4, Bq⟩ := hQ4
  have Z4 : n0 ≤ T4.heap.size := Nat.le_trans Z3 Wq4.size
  have hk4 : ks ≤ T4.heap.size := Nat.le_trans hks3 Wq4.size
  have WW4 : own_W h0.size h0 T4.heap := own_W.trans WW3 (own_W.mono (Nat.le_refl _) Wq4)
  have N4 : Fr n0 L4 := by rw [l4]; exact Fr.app N2 Nq4
  have B4 : own_sb Z T4.heap h0.size b1 (16 : Int32) (6 : Int32) := own_sb.cast (by decide) (by decide) Bq
  obtain ⟨T5, X5, e5, st5⟩ := getF X4 hx hZ hown (host := "") (Or.inl (wJ hw 38 rfl)) Via.refl rfl (own_W.fld Fp EA.lt WW4) (g := (mkF m 13 #[.val (.ref a1)] [(.ref a1), (.ref b1)])) rfl rfl (hb hby d27_13)
  obtain ⟨cq6, kq6, q6a, q6b, q6c⟩ := isOf hZ e5 B4.exa
  obtain ⟨_, _, ⟨T6, L6, k6, n6⟩, -, X6, ⟨Lc6, hQ6, l6, y6, z6⟩, st6⟩ := X5.virtualBack hx (y := mn38) (z := mn38) hown (mvT hZ (wJ hw 202 rfl)) (mvT hZ (wJ hw 203 rfl)) (notFace_of_selects (args := #[]) (mvT hZ (wJ hw 205 rfl))) (mvT hZ (wJ hw 205 rfl)) (mvT hZ (wJ hw 204 rfl)) (by decide) (backOf (W := 0) (own_sbJx1 l Z a0 hw [] b1 qp d1 d2 kd1 kd2 vo vt cs h0.size T4.heap n0 Z4 hqp B4 Z0 (own_S.W SO0 WW4) (own_S.W ST0 WW4) (own_W.arv VO ld1 WW4) (own_W.arv VT ld2 WW4) ld1 ld2 (own_S.W SC0 WW4) hcs) hZ (wJ hw 206 rfl) (wJ hw 79 rfl) (by decide) (by decide)) q6a q6c (g := (mkF m 16 #[.val (.ref a1)] [(.long qp), (.ref b1)])) rfl (by rw [hml]; rfl) (Steps.refl _) (argsL := [(.long qp)]) (rest := []) (lenOf pd__J_Ljava_lang_StringBuilder_ rfl) rfl (by show 2 * 0 + _ ≤ _; exact Nat.le_of_eq rfl) (hb hby d27_16) (fun _ _ => ⟨rfl, e5, (by decide : 4 + 0 ≤ _), (by decide : 48 + 0 ≤ _)⟩)
  dsimp only [Pt.U, Pt.locs, Pt.cells, Pt.slots] at X6 l6 y6 z6 st6 hQ6
  replace X6 := X6.more (Nat.le_of_eq (show k6 = 4 from y6)) (Nat.le_of_eq (show n6 = 48 from z6))
  obtain ⟨rfl, Nq6, Wq6, Bj1⟩ := hQ6
  have Z6 : n0 ≤ T6.heap.size := Nat.le_trans Z4 Wq6.size
  have hk6 : ks ≤ T6.heap.size := Nat.le_trans hk4 Wq6.size
  have WW6 : own_W h0.size h0 T6.heap := own_W.trans WW4 (own_W.mono (Nat.le_refl _) Wq6)
  have N6 : Fr n0 L6 := by rw [l6]; exact Fr.app N4 Nq6
  obtain ⟨sa7, T7, h7, ks, sb7, sk7, X7, e7, E7, hS, hks7, hZ, hown, Ea7, Fc7, Fv7, V7, lta7, ltb7, IBs, Lit7, st7⟩ := ldcSVL (text := own_T227) X6 hx hZ hown (wJ hw 227 rfl) own_wS rfl hS hk6 (by rw [hh]; exact hn0 ▸ N6) (fun b cl q => by rw [hh]; exact hold b cl q) IBs (by decide +kernel) (HC _ (wI 1 rfl)) HCW (vs := own_vs own_T227) (z := (7 : Int32)) (own_ht (by decide +kernel)) (by decide) (by decide +kernel) (g := (mkF m 19 #[.val (.ref a1)] [(.ref b1)])) rfl (hb hby d27_19) (n := 28) (by decide +kernel) (by decide) (by decide) (by decide)
  have Z7 : n0 ≤ h7.size := Nat.le_trans Z6 E7.1
  have WW7 : own_W h0.size h0 h7 := own_W.ext WW6 E7
  have S7 : own_str Z h7 sa7 (7 : Int32) := ⟨sb7, sk7, _, Ea7, Fv7, Fc7, V7, by decide +kernel⟩
  have Bk7 := Bj1.keep ((Keep.refl _ []).ext E7)
  obtain ⟨cq8, kq8, q8a, q8b, q8c⟩ := isOf hZ e7 Bk7.exa
  obtain ⟨_, _, ⟨T8, L8, k8, n8⟩, -, X8, ⟨Lc8, hQ8, l8, y8, z8⟩, st8⟩ := X7.virtualBack hx (y := mn39) (z := mn39) hown (mvT hZ (wJ hw 201 rfl)) (mvT hZ (wJ hw 147 rfl)) (notFace_of_selects (args := #[]) (mvT hZ (wJ hw 149 rfl))) (mvT hZ (wJ hw 149 rfl)) (mvT hZ (wJ hw 148 rfl)) (by decide) (backOf (W := 0) (own_sbSN l Z a0 hw [] b1 sa7 (16 : Int32) (7 : Int32) (7 : Int32) cs h0.size h7 n0 Z7 Bk7 S7 Z0 WW7.size (by decide) (by decide) (by decide) (own_S.W SC0 WW7) hcs) hZ (wJ hw 150 rfl) (wJ hw 79 rfl) (by decide) (by decide)) q8a q8c (g := (mkF m 21 #[.val (.ref a1)] [(.ref sa7), (.ref b1)])) rfl (by rw [hml]; rfl) (Steps.refl _) (argsL := [(.ref sa7)]) (rest := []) (lenOf pd__Ljava_lang_String__Ljava_lang_StringBuilder_ rfl) rfl (by show 2 * 0 + _ ≤ _; exact Nat.le_of_eq rfl) (hb hby d27_21) (fun _ _ => ⟨rfl, e7, (by decide : 6 + 0 ≤ _), (by decide : 80 + 0 ≤ _)⟩)
  dsimp only [Pt.U, Pt.locs, Pt.cells, Pt.slots] at X8 l8 y8 z8 st8 hQ8
  replace X8 := X8.more (Nat.le_of_eq (show k8 = 6 from y8)) (Nat.le_of_eq (show n8 = 80 from z8))
  obtain ⟨rfl, Nq8, Wq8, Bq⟩ := hQ8
  have Z8 : n0 ≤ T8.heap.size := Nat.le_trans Z7 Wq8.size
  have hk8 : ks ≤ T8.heap.size := Nat.le_trans hks7 Wq8.size
  have WW8 : own_W h0.size h0 T8.heap := own_W.trans WW7 (own_W.mono (Nat.le_refl _) Wq8)
  have N8 : Fr n0 L8 := by rw [l8]; exact Fr.app N6 Nq8
  have B8 : own_sb Z T8.heap h0.size b1 (16 : Int32) (14 : Int32) := own_sb.cast (by decide) (by decide) Bq
  obtain ⟨T9, X9, e9, st9⟩ := getF X8 hx hZ hown (host := "") (Or.inl (wJ hw 40 rfl)) Via.refl rfl (own_W.fld Fo EA.lt WW8) (g := (mkF m 25 #[.val (.ref a1)] [(.ref a1), (.ref b1)])) rfl rfl (hb hby d27_25)
  obtain ⟨cq10, kq10, q10a, q10b, q10c⟩ := isOf hZ e9 B8.exa
  obtain ⟨_, _, ⟨T10, L10, k10, n10⟩, -, X10, ⟨Lc10, hQ10, l10, y10, z10⟩, st10⟩ := X9.virtualBack hx (y := mn38) (z := mn38) hown (mvT hZ (wJ hw 202 rfl)) (mvT hZ (wJ hw 203 rfl)) (notFace_of_selects (args := #[]) (mvT hZ (wJ hw 205 rfl))) (mvT hZ (wJ hw 205 rfl)) (mvT hZ (wJ hw 204 rfl)) (by decide) (backOf (W := 0) (own_sbJx2 l Z a0 hw [] b1 qo d1 d2 kd1 kd2 vo vt cs h0.size T8.heap n0 Z8 hqo B8 Z0 (own_S.W SO0 WW8) (own_S.W ST0 WW8) (own_W.arv VO ld1 WW8) (own_W.arv VT ld2 WW8) ld1 ld2 (own_S.W SC0 WW8) hcs) hZ (wJ hw 206 rfl) (wJ hw 79 rfl) (by decide) (by decide)) q10a q10c (g := (mkF m 28 #[.val (.ref a1)] [(.long qo), (.ref b1)])) rfl (by rw [hml]; rfl) (Steps.refl _) (argsL := [(.long qo)]) (rest := []) (lenOf pd__J_Ljava_lang_StringBuilder_ rfl) rfl (by show 2 * 0 + _ ≤ _; exact Nat.le_of_eq rfl) (hb hby d27_28) (fun _ _ => ⟨rfl, e9, (by decide : 6 + 0 ≤ _), (by decide : 80 + 0 ≤ _)⟩)
  dsimp only [Pt.U, Pt.locs, Pt.cells, Pt.slots] at X10 l10 y10 z10 st10 hQ10
  replace X10 := X10.more (Nat.le_of_eq (show k10 = 6 from y10)) (Nat.le_of_eq (show n10 = 80 from z10))
  obtain ⟨rfl, Nq10, Wq10, Bj2⟩ := hQ10
  have Z10 : n0 ≤ T10.heap.size := Nat.le_trans Z8 Wq10.size
  have hk10 : ks ≤ T10.heap.size := Nat.le_trans hk8 Wq10.size
  have WW10 : own_W h0.size h0 T10.heap := own_W.trans WW8 (own_W.mono (Nat.le_refl _) Wq10)
  have N10 : Fr n0 L10 := by rw [l10]; exact Fr.app N8 Nq10
  obtain ⟨sa11, T11, h11, ks, sb11, sk11, X11, e11, E11, hS, hks11, hZ, hown, Ea11, Fc11, Fv11, V11, lta11, ltb11, IBs, Lit11, st11⟩ := ldcSVL (text := own_T230) X10 hx hZ hown (wJ hw 230 rfl) own_wS rfl hS hk10 (by rw [hh]; exact hn0 ▸ N10) (fun b cl q => by rw [hh]; exact hold b cl q) IBs (by decide +kernel) (HC _ (wI 2 rfl)) HCW (vs := own_vs own_T230) (z := (1 : Int32)) (own_ht (by decide +kernel)) (by decide) (by decide +kernel) (g := (mkF m 31 #[.val (.ref a1)] [(.ref b1)])) rfl (hb hby d27_31) (n := 4) (by decide +kernel) (by decide) (by decide) (by decide)
  have Z11 : n0 ≤ h11.size := Nat.le_trans Z10 E11.1
  have WW11 : own_W h0.size h0 h11 := own_W.ext WW10 E11
  have S11 : own_str Z h11 sa11 (1 : Int32) := ⟨sb11, sk11, _, Ea11, Fv11, Fc11, V11, by decide +kernel⟩
  have Bk11 := Bj2.keep ((Keep.refl _ []).ext E11)
  obtain ⟨cq12, kq12, q12a, q12b, q12c⟩ := isOf hZ e11 Bk11.exa
  obtain ⟨_, _, ⟨T12, L12, k12, n12⟩, -, X12, ⟨Lc12, hQ12, l12, y12, z12⟩, st12⟩ := X11.virtualBack hx (y := mn39) (z := mn39) hown (mvT hZ (wJ hw 201 rfl)) (mvT hZ (wJ hw 147 rfl)) (notFace_of_selects (args := #[]) (mvT hZ (wJ hw 149 rfl))) (mvT hZ (wJ hw 149 rfl)) (mvT hZ (wJ hw 148 rfl)) (by decide) (backOf (W := 0) (own_sbSG l Z a0 hw [] b1 sa11 (16 : Int32) (16 : Int32) (1 : Int32) cs h0.size h11 n0 Z11 Bk11 S11 Z0 WW11.size (by decide) (by decide) (by unfold own_gr; decide) (own_S.W SC0 WW11) hcs) hZ (wJ hw 150 rfl) (wJ hw 79 rfl) (by decide) (by decide)) q12a q12c (g := (mkF m 33 #[.val (.ref a1)] [(.ref sa11), (.ref b1)])) rfl (by rw [hml]; rfl) (Steps.refl _) (argsL := [(.ref sa11)]) (rest := []) (lenOf pd__Ljava_lang_String__Ljava_lang_StringBuilder_ rfl) rfl (by show 2 * 0 + _ ≤ _; exact Nat.le_of_eq rfl) (hb hby d27_33) (fun _ _ => ⟨rfl, e11, (by decide : 8 + 1 ≤ _), (by decide : 88 + 128 ≤ _)⟩)
  dsimp only [Pt.U, Pt.locs, Pt.cells, Pt.slots] at X12 l12 y12 z12 st12 hQ12
  replace X12 := X12.more (Nat.le_of_eq (show k12 = 9 from y12)) (Nat.le_of_eq (show n12 = 216 from z12))
  obtain ⟨rfl, Nq12, Wq12, Bq⟩ := hQ12
  have Z12 : n0 ≤ T12.heap.size := Nat.le_trans Z11 Wq12.size
  have hk12 : ks ≤ T12.heap.size := Nat.le_trans hks11 Wq12.size
  have WW12 : own_W h0.size h0 T12.heap := own_W.trans WW11 (own_W.mono (Nat.le_refl _) Wq12)
  have N12 : Fr n0 L12 := by rw [l12]; exact Fr.app N10 Nq12
  have B12 : own_sb Z T12.heap h0.size b1 (34 : Int32) (17 : Int32) := own_sb.cast (by decide) (by decide) Bq
  obtain ⟨cq13, kq13, q13a, q13b, q13c⟩ := isOf hZ rfl B12.exa
  obtain ⟨_, _, ⟨T13, L13, k13, n13⟩, -, X13, ⟨Lc13, hQ13, l13, y13, z13⟩, st13⟩ := X12.virtualBack hx (y := mn41) (z := mn41) hown (mvT hZ (wJ hw 254 rfl)) (mvT hZ (wJ hw 255 rfl)) (notFace_of_selects (args := #[]) (mvT hZ (wJ hw 257 rfl))) (mvT hZ (wJ hw 257 rfl)) (mvT hZ (wJ hw 256 rfl)) (by decide) (backOf (W := 0) (own_tos_17 l Z a0 hw [] b1 h0.size cs h0.size T12.heap n0 Z12 B12 (own_S.W SC0 WW12) hcs) hZ (wJ hw 258 rfl) (wJ hw 79 rfl) (by decide) (by decide)) q13a q13c (g := (mkF m 36 #[.val (.ref a1)] [(.ref b1)])) rfl (by rw [hml]; rfl) (Steps.refl _) (argsL := []) (rest := []) (lenOf pd___Ljava_lang_String_ rfl) rfl (by show 2 * 0 + _ ≤ _; exact Nat.le_of_eq rfl) (hb hby d27_36) (fun _ _ => ⟨rfl, rfl, (by decide : 9 + 2 ≤ _), (by decide : 216 + 21 ≤ _)⟩)
  dsimp only [Pt.U, Pt.locs, Pt.cells, Pt.slots] at X13 l13 y13 z13 st13 hQ13
  replace X13 := X13.more (Nat.le_of_eq (show k13 = 11 from y13)) (Nat.le_of_eq (show n13 = 237 from z13))
  obtain ⟨tt, rfl, Nq13, Kq13, stt, Stt⟩ := hQ13
  have Z13 : n0 ≤ T13.heap.size := Nat.le_trans Z12 Kq13.1
  have hk13 : ks ≤ T13.heap.size := Nat.le_trans hk12 Kq13.1
  have WW13 : own_W h0.size h0 T13.heap := own_W.keep WW12 Kq13 all0
  have N13 : Fr n0 L13 := by rw [l13]; exact Fr.app N12 Nq13
  obtain ⟨fs, hr, hrun, hended, hend⟩ := X13.leaveW hS hk13 (v := some (.ref tt)) (fun h => by rw [Bd.returns] at h; cases h)
  refine ⟨_, _, pre0 _ ?_, hrun, hended, _, _, rfl, ?_, ?_, ⟨_, rfl⟩, hend.2.1, hend.2.2.1, hend.2.2.2.mono (by decide) (by decide)⟩
  · show Steps p.tables e below (s₁.setTop (mkF m 0 #[.val (.ref a1)] [])) _
    refine st1 _ ?_
    refine XS.dup X1.here hx rfl (hb hby d27_3) rfl rfl ?_
    refine st2.trans ?_
    refine st3 _ ?_
    show Steps _ _ _ (T3.setTop (mkF m 9 #[.val (.ref a1)] [(.ref sa3), (.ref b1)])) _
    refine st4.trans ?_
    refine XS.aloadN X4.here hx rfl (hb hby d27_12) rfl rfl ?_
    refine st5 _ ?_
    refine st6.trans ?_
    show Steps _ _ _ (T6.setTop (mkF m 19 #[.val (.ref a1)] [(.ref b1)])) _
    refine st7 _ ?_
    refine st8.trans ?_
    refine XS.aloadN X8.here hx rfl (hb hby d27_24) rfl rfl ?_
    refine st9 _ ?_
    show Steps _ _ _ (T9.setTop (mkF m 28 #[.val (.ref a1)] [(.long qo), (.ref b1)])) _
    refine st10.trans ?_
    refine st11 _ ?_
    refine st12.trans ?_
    refine st13.trans ?_
    show Steps _ _ _ (T13.setTop (mkF m 39 #[.val (.ref a1)] [(.ref tt)])) _
    exact retOut X13 hx Bd.returns rfl (Or.inr (Or.inr (Or.inr (Or.inr ⟨rfl, rfl, rfl⟩)))) (hb hby d27_39) hr
  · show Qown_desc Z a1 qp qo d1 d2 kd1 kd2 vo vt cs nb h0 n0 _ T13.heap _
    exact ⟨tt, rfl, N13, WW13.keep0, Stt⟩
  · exact own_IB (s := s.setVm T11.vm) IBs X13.warmed
theorem d16_0 : decode c16 0 = .ok (.aload_n 1, 1) := by decide +kernel
theorem d16_1 : decode c16 1 = .ok (.invokevirtual 22, 3) := by decide +kernel
theorem d16_4 : decode c16 4 = .ok (.ifnull 8, 3) := by decide +kernel
theorem d16_12 : decode c16 12 = .ok (.aload_n 1, 1) := by decide +kernel
theorem d16_13 : decode c16 13 = .ok (.invokevirtual 28, 3) := by decide +kernel
theorem d16_16 : decode c16 16 = .ok (.aload_n 0, 1) := by decide +kernel
theorem d16_17 : decode c16 17 = .ok (.getfield 18, 3) := by decide +kernel
theorem d16_20 : decode c16 20 = .ok (.if_icmp .eq 55, 3) := by decide +kernel
theorem d16_75 : decode c16 75 = .ok (.aload_n 0, 1) := by decide +kernel
theorem d16_76 : decode c16 76 = .ok (.getfield 55, 3) := by decide +kernel
theorem d16_79 : decode c16 79 = .ok (.ifnull 51, 3) := by decide +kernel
theorem d16_130 : decode c16 130 = .ok (.aconst_null, 1) := by decide +kernel
theorem d16_131 : decode c16 131 = .ok (.areturn, 1) := by decide +kernel
theorem ef_own_rs0 (m : MethodId) (x0 : Addr) (x1 : Addr) : entryFrame m #[(.ref x0), (.ref x1)] 2 = mkF m 0 #[.val (.ref x0), .val (.ref x1)] [] := by first | (simp [entryFrame, mkF, argsToLocals, Value.category]; done) | rfl
def Qown_rs0 (Z : State) (a1 : Addr) (a2 : Addr) (dd : Int32) (h0 : Heap) (n0 : Nat) (v : Option Value) (h : Heap) (L : List Loc) : Prop := v = some .null ∧ Fr n0 L ∧ h = h0
theorem own_rs0 (l : Launch) (Z : State) (a0 : Array Value) (hw : ∀ d ∈ tables_1, d.before a0 Z = true) (ws : List Jvm.Cond) (a1 : Addr) (a2 : Addr) (dd : Int32) (h0 : Heap) (n0 : Nat) (Z0 : n0 ≤ h0.size) (EA : Exa Z h0 a1 "com/example/hemotide/hemotide/link/Transfer") (EB : Exa Z h0 a2 "com/example/hemotide/hemotide/link/Frame") (Fd : Fld Z h0 a2 "com/example/hemotide/hemotide/link/Frame" "defect" "Ljava/lang/String;" .null) (Fn : Fld Z h0 a2 "com/example/hemotide/hemotide/link/Frame" "number" "I" (.int dd)) (Fu : Fld Z h0 a1 "com/example/hemotide/hemotide/link/Transfer" "due" "I" (.int dd)) (Fa : Fld Z h0 a1 "com/example/hemotide/hemotide/link/Transfer" "awaited" "Lcom/example/hemotide/hemotide/link/Frame;" .null) :
    MetFree l mn10 (head1 (Jvm.Cond.code mn10 prog_35_method_2_code 2 (some (.object "java/lang/String")) :: ws) (⟨1, 0, 0, 12⟩ : Room)) (fun a U => a = #[(.ref a1), (.ref a2)] ∧ Z.Warmed39 U.vm ∧ U.heap = h0) (fun _ _ _ _ _ => True) (fun _ U o U' => ∃ v L, o = .returned v ∧ Qown_rs0 Z a1 a2 dd h0 n0 v U'.heap L ∧ FrameEnd U o U' L (⟨1, 0, 0, 12⟩ : Room).cells (⟨1, 0, 0, 12⟩ : Room).slots) := by
  refine MetFree.of_bodySF (plainFor_of_name pn_com_example_hemotide_hemotide_link_Transfer) hisR ?_
  intro p e s m args below meth c s₁ Bd hml0 hP hK
  obtain ⟨rfl, hZ, hh⟩ := hP
  have hx := Bd.exec
  have hby := Bd.bytes
  have hml : c.maxLocals = 2 := hml0
  have hown : s.vm.findClass "com/example/hemotide/hemotide/link/Transfer" = some m.cls := findClass_of_methodNamed Bd.named
  have hnm := (name_of_methodNamed Bd.named Bd.method).1
  have X0 : Stand p l e (⟨1, 0, 0, 12⟩ : Room) s m #[(.ref a1), (.ref a2)] below meth c s₁ [] 0 0 := Stand.of_body Bd
  have e0 : s₁.heap = h0 := by rw [← hh, Bd.state]; rfl
  have N0 := Fr.nil n0
  have pre0 : ∀ t, Steps p.tables e below (s₁.setTop (mkF m 0 #[.val (.ref a1), .val (.ref a2)] [])) t → Steps p.tables e below (s₁.setTop (entryFrame m #[(.ref a1), (.ref a2)] 2)) t := fun t k => castTop (ef_own_rs0 m (a1) (a2)) k
  obtain ⟨cq1, kq1, q1a, q1b, q1c⟩ := isOf hZ e0 EB
  obtain ⟨_, _, ⟨T1, L1, k1, n1⟩, -, X1, ⟨Lc1, hQ1, l1, y1, z1⟩, st1⟩ := X0.virtualBack hx (y := mn2) (z := mn2) hown (mvT hZ (wJ hw 108 rfl)) (mvT hZ (wJ hw 109 rfl)) (notFace_of_selects (args := #[]) (mvT hZ (wJ hw 111 rfl))) (mvT hZ (wJ hw 111 rfl)) (mvT hZ (wJ hw 110 rfl)) (by decide) (backOf (W := 0) (own_fdefect l Z a0 hw [] a2 .null h0 n0 Z0 Fd rfl) hZ (wJ hw 112 rfl) (wJ hw 28 rfl) (by decide) (by decide)) q1a q1c (g := (mkF m 1 #[.val (.ref a1), .val (.ref a2)] [(.ref a2)])) rfl (by rw [hml]; rfl) (Steps.refl _) (argsL := []) (rest := []) (lenOf pd___Ljava_lang_String_ rfl) rfl (by show 2 * 0 + _ ≤ _; exact Nat.le_of_eq rfl) (hb hby d16_1) (fun _ _ => ⟨rfl, e0, (by decide : 0 + 0 ≤ _), (by decide : 0 + 0 ≤ _)⟩)
  dsimp only [Pt.U, Pt.locs, Pt.cells, Pt.slots] at X1 l1 y1 z1 st1 hQ1
  replace X1 := X1.more (Nat.le_of_eq (show k1 = 0 from y1)) (Nat.le_of_eq (show n1 = 0 from z1))
  obtain ⟨rfl, Nq1, e1⟩ := hQ1
  have N1 : Fr n0 L1 := by rw [l1]; exact Fr.app N0 Nq1
  obtain ⟨cq2, kq2, q2a, q2b, q2c⟩ := isOf hZ e1 EB
  obtain ⟨_, _, ⟨T2, L2, k2, n2⟩, -, X2, ⟨Lc2, hQ2, l2, y2, z2⟩, st2⟩ := X1.virtualBack hx (y := mn5) (z := mn5) hown (mvT hZ (wJ hw 130 rfl)) (mvT hZ (wJ hw 131 rfl)) (notFace_of_selects (args := #[]) (mvT hZ (wJ hw 133 rfl))) (mvT hZ (wJ hw 133 rfl)) (mvT hZ (wJ hw 132 rfl)) (by decide) (backOf (W := 0) (own_fnumber l Z a0 hw [] a2 dd h0 n0 Z0 Fn) hZ (wJ hw 134 rfl) (wJ hw 28 rfl) (by decide) (by decide)) q2a q2c (g := (mkF m 13 #[.val (.ref a1), .val (.ref a2)] [(.ref a2)])) rfl (by rw [hml]; rfl) (Steps.refl _) (argsL := []) (rest := []) (lenOf pd___I rfl) rfl (by show 2 * 0 + _ ≤ _; exact Nat.le_of_eq rfl) (hb hby d16_13) (fun _ _ => ⟨rfl, e1, (by decide : 0 + 0 ≤ _), (by decide : 0 + 0 ≤ _)⟩)
  dsimp only [Pt.U, Pt.locs, Pt.cells, Pt.slots] at X2 l2 y2 z2 st2 hQ2
  replace X2 := X2.more (Nat.le_of_eq (show k2 = 0 from y2)) (Nat.le_of_eq (show n2 = 0 from z2))
  obtain ⟨rfl, Nq2, e2⟩ := hQ2
  have N2 : Fr n0 L2 := by rw [l2]; exact Fr.app N1 Nq2
  obtain ⟨T3, X3, e3, st3⟩ := getF X2 hx hZ hown (host := "") (Or.inl (wJ hw 99 rfl)) Via.refl e2 Fu (g := (mkF m 17 #[.val (.ref a1), .val (.ref a2)] [(.ref a1), (.int dd)])) rfl rfl (hb hby d16_17)
  obtain ⟨T4, X4, e4, st4⟩ := getF X3 hx hZ hown (host := "") (Or.inl (wJ hw 106 rfl)) Via.refl e3 Fa (g := (mkF m 76 #[.val (.ref a1), .val (.ref a2)] [(.ref a1)])) rfl rfl (hb hby d16_76)
  obtain ⟨fs, hr, hrun, hended, hW, hsame⟩ := X4.leave (v := some .null) (fun h => by rw [Bd.returns] at h; cases h)
  refine ⟨_, _, pre0 _ ?_, hrun, hended, _, _, rfl, ?_, ⟨_, rfl⟩, hW, hsame.mono (by decide) (by decide)⟩
  · show Steps p.tables e below (s₁.setTop (mkF m 0 #[.val (.ref a1), .val (.ref a2)] [])) _
    refine XS.aloadN X0.here hx rfl (hb hby d16_0) rfl rfl ?_
    refine st1.trans ?_
    refine XS.ifnullYes X1.here hx rfl (pc0 := 4) (pc' := 12) rfl (hb hby d16_4) rfl (by decide) (by decide) ?_
    refine XS.aloadN X1.here hx rfl (hb hby d16_12) rfl rfl ?_
    show Steps _ _ _ (T1.setTop (mkF m 13 #[.val (.ref a1), .val (.ref a2)] [(.ref a2)])) _
    refine st2.trans ?_
    refine XS.aloadN X2.here hx rfl (hb hby d16_16) rfl rfl ?_
    refine st3 _ ?_
    refine XS.icmpYes X3.here hx rfl (pc0 := 20) (pc' := 75) rfl (hb hby d16_20) rfl (teq (rfl : dd = dd)).1 (by decide) (by decide) ?_
    show Steps _ _ _ (T3.setTop (mkF m 75 #[.val (.ref a1), .val (.ref a2)] [])) _
    refine XS.aloadN X3.here hx rfl (hb hby d16_75) rfl rfl ?_
    refine st4 _ ?_
    refine XS.ifnullYes X4.here hx rfl (pc0 := 79) (pc' := 130) rfl (hb hby d16_79) rfl (by decide) (by decide) ?_
    refine XS.aconstNull X4.here hx rfl (hb hby d16_130) ?_
    show Steps _ _ _ (T4.setTop (mkF m 131 #[.val (.ref a1), .val (.ref a2)] [.null])) _
    exact retOut X4 hx Bd.returns rfl (Or.inr (Or.inr (Or.inr (Or.inr ⟨rfl, rfl, rfl⟩)))) (hb hby d16_131) hr
  · show Qown_rs0 Z a1 a2 dd h0 n0 _ T4.heap _
    rw [e4]
    exact ⟨rfl, N2, rfl⟩
theorem d16_82 : decode c16 82 = .ok (.aload_n 1, 1) := by decide +kernel
theorem d16_83 : decode c16 83 = .ok (.invokevirtual 59, 3) := by decide +kernel
theorem d16_86 : decode c16 86 = .ok (.aload_n 0, 1) := by decide +kernel
theorem d16_87 : decode c16 87 = .ok (.getfield 55, 3) := by decide +kernel
theorem d16_90 : decode c16 90 = .ok (.invokevirtual 59, 3) := by decide +kernel
theorem d16_93 : decode c16 93 = .ok (.invokevirtual 62, 3) := by decide +kernel
theorem pd__Ljava_lang_Object__Z : parseMethodDescriptor "(Ljava/lang/Object;)Z" = some ⟨[(.object "java/lang/Object")], some .boolean⟩ := by decide +kernel
theorem d16_96 : decode c16 96 = .ok (.ifCond .ne 34, 3) := by decide +kernel
theorem ef_own_rsE (m : MethodId) (x0 : Addr) (x1 : Addr) : entryFrame m #[(.ref x0), (.ref x1)] 2 = mkF m 0 #[.val (.ref x0), .val (.ref x1)] [] := by first | (simp [entryFrame, mkF, argsToLocals, Value.category]; done) | rfl
def Qown_rsE (Z : State) (a1 : Addr) (a2 : Addr) (dd : Int32) (wa : Addr) (tx : Addr) (th : Addr) (ux : Int32) (uh : Int32) (cs : Int32) (nb : Nat) (h0 : Heap) (n0 : Nat) (v : Option Value) (h : Heap) (L : List Loc) : Prop := v = some .null ∧ Fr n0 L ∧ h = h0
theorem own_rsE (l : Launch) (Z : State) (a0 : Array Value) (hw : ∀ d ∈ tables_1, d.before a0 Z = true) (ws : List Jvm.Cond) (a1 : Addr) (a2 : Addr) (dd : Int32) (wa : Addr) (tx : Addr) (th : Addr) (ux : Int32) (uh : Int32) (cs : Int32) (nb : Nat) (h0 : Heap) (n0 : Nat) (Z0 : n0 ≤ h0.size) (EA : Exa Z h0 a1 "com/example/hemotide/hemotide/link/Transfer") (EB : Exa Z h0 a2 "com/example/hemotide/hemotide/link/Frame") (Fd : Fld Z h0 a2 "com/example/hemotide/hemotide/link/Frame" "defect" "Ljava/lang/String;" .null) (Fn : Fld Z h0 a2 "com/example/hemotide/hemotide/link/Frame" "number" "I" (.int dd)) (Fu : Fld Z h0 a1 "com/example/hemotide/hemotide/link/Transfer" "due" "I" (.int dd)) (Fa : Fld Z h0 a1 "com/example/hemotide/hemotide/link/Transfer" "awaited" "Lcom/example/hemotide/hemotide/link/Frame;" (.ref wa)) (EX : Exa Z h0 wa "com/example/hemotide/hemotide/link/Frame") (FX : Fld Z h0 wa "com/example/hemotide/hemotide/link/Frame" "text" "Ljava/lang/String;" (.ref tx)) (FH : Fld Z h0 a2 "com/example/hemotide/hemotide/link/Frame" "text" "Ljava/lang/String;" (.ref th)) (SX : own_txt Z h0 tx ux) (SH : own_txt Z h0 th uh) (hne : th ≠ tx) (hq : uh = ux) (SC : own_S Z h0 nb "java/lang/String" "COMPACT_STRINGS" "Z" (.int cs)) (hcs : ¬ (cs = (0 : Int32))) :
    MetFree l mn10 (head1 (Jvm.Cond.code mn10 prog_35_method_2_code 2 (some (.object "java/lang/String")) :: ws) (⟨2, 0, 0, 28⟩ : Room)) (fun a U => a = #[(.ref a1), (.ref a2)] ∧ Z.Warmed39 U.vm ∧ U.heap = h0) (fun _ _ _ _ _ => True) (fun _ U o U' => ∃ v L, o = .returned v ∧ Qown_rsE Z a1 a2 dd wa tx th ux uh cs nb h0 n0 v U'.heap L ∧ FrameEnd U o U' L (⟨2, 0, 0, 28⟩ : Room).cells (⟨2, 0, 0, 28⟩ : Room).slots) := by
  refine MetFree.of_bodySF (plainFor_of_name pn_com_example_hemotide_hemotide_link_Transfer) hisR ?_
  intro p e s m args below meth c s₁ Bd hml0 hP hK
  obtain ⟨rfl, hZ, hh⟩ := hP
  have hx := Bd.exec
  have hby := Bd.bytes
  have hml : c.maxLocals = 2 := hml0
  have hown : s.vm.findClass "com/example/hemotide/hemotide/link/Transfer" = some m.cls := findClass_of_methodNamed Bd.named
  have hnm := (name_of_methodNamed Bd.named Bd.method).1
  have X0 : Stand p l e (⟨2, 0, 0, 28⟩ : Room) s m #[(.ref a1), (.ref a2)] below meth c s₁ [] 0 0 := Stand.of_body Bd
  have e0 : s₁.heap = h0 := by rw [← hh, Bd.state]; rfl
  have N0 := Fr.nil n0
  have pre0 : ∀ t, Steps p.tables e below (s₁.setTop (mkF m 0 #[.val (.ref a1), .val (.ref a2)] [])) t → Steps p.tables e below (s₁.setTop (entryFrame m #[(.ref a1), (.ref a2)] 2)) t := fun t k => castTop (ef_own_rsE m (a1) (a2)) k
  obtain ⟨cq1, kq1, q1a, q1b, q1c⟩ := isOf hZ e0 EB
  obtain ⟨_, _, ⟨T1, L1, k1, n1⟩, -, X1, ⟨Lc1, hQ1, l1, y1, z1⟩, st1⟩ := X0.virtualBack hx (y := mn2) (z := mn2) hown (mvT hZ (wJ hw 108 rfl)) (mvT hZ (wJ hw 109 rfl)) (notFace_of_selects (args := #[]) (mvT hZ (wJ hw 111 rfl))) (mvT hZ (wJ hw 111 rfl)) (mvT hZ (wJ hw 110 rfl)) (by decide) (backOf (W := 0) (own_fdefect l Z a0 hw [] a2 .null h0 n0 Z0 Fd rfl) hZ (wJ hw 112 rfl) (wJ hw 28 rfl) (by decide) (by decide)) q1a q1c (g := (mkF m 1 #[.val (.ref a1), .val (.ref a2)] [(.ref a2)])) rfl (by rw [hml]; rfl) (Steps.refl _) (argsL := []) (rest := []) (lenOf pd___Ljava_lang_String_ rfl) rfl (by show 2 * 0 + _ ≤ _; exact Nat.le_of_eq rfl) (hb hby d16_1) (fun _ _ => ⟨rfl, e0, (by decide : 0 + 0 ≤ _), (by decide : 0 + 0 ≤ _)⟩)
  dsimp only [Pt.U, Pt.locs, Pt.cells, Pt.slots] at X1 l1 y1 z1 st1 hQ1
  replace X1 := X1.more (Nat.le_of_eq (show k1 = 0 from y1)) (Nat.le_of_eq (show n1 = 0 from z1))
  obtain ⟨rfl, Nq1, e1⟩ := hQ1
  have N1 : Fr n0 L1 := by rw [l1]; exact Fr.app N0 Nq1
  obtain ⟨cq2, kq2, q2a, q2b, q2c⟩ := isOf hZ e1 EB
  obtain ⟨_, _, ⟨T2, L2, k2, n2⟩, -, X2, ⟨Lc2, hQ2, l2, y2, z2⟩, st2⟩ := X1.virtualBack hx (y := mn5) (z := mn5) hown (mvT hZ (wJ hw 130 rfl)) (mvT hZ (wJ hw 131 rfl)) (notFace_of_selects (args := #[]) (mvT hZ (wJ hw 133 rfl))) (mvT hZ (wJ hw 133 rfl)) (mvT hZ (wJ hw 132 rfl)) (by decide) (backOf (W := 0) (own_fnumber l Z a0 hw [] a2 dd h0 n0 Z0 Fn) hZ (wJ hw 134 rfl) (wJ hw 28 rfl) (by decide) (by decide)) q2a q2c (g := (mkF m 13 #[.val (.ref a1), .val (.ref a2)] [(.ref a2)])) rfl (by rw [hml]; rfl) (Steps.refl _) (argsL := []) (rest := []) (lenOf pd___I rfl) rfl (by show 2 * 0 + _ ≤ _; exact Nat.le_of_eq rfl) (hb hby d16_13) (fun _ _ => ⟨rfl, e1, (by decide : 0 + 0 ≤ _), (by decide : 0 + 0 ≤ _)⟩)
  dsimp only [Pt.U, Pt.locs, Pt.cells, Pt.slots] at X2 l2 y2 z2 st2 hQ2
  replace X2 := X2.more (Nat.le_of_eq (show k2 = 0 from y2)) (Nat.le_of_eq (show n2 = 0 from z2))
  obtain ⟨rfl, Nq2, e2⟩ := hQ2
  have N2 : Fr n0 L2 := by rw [l2]; exact Fr.app N1 Nq2
  obtain ⟨T3, X3, e3, st3⟩ := getF X2 hx hZ hown (host := "") (Or.inl (wJ hw 99 rfl)) Via.refl e2 Fu (g := (mkF m 17 #[.val (.ref a1), .val (.ref a2)] [(.ref a1), (.int dd)])) rfl rfl (hb hby d16_17)
  obtain ⟨T4, X4, e4, st4⟩ := getF X3 hx hZ hown (host := "") (Or.inl (wJ hw 106 rfl)) Via.refl e3 Fa (g := (mkF m 76 #[.val (.ref a1), .val (.ref a2)] [(.ref a1)])) rfl rfl (hb hby d16_76)
  obtain ⟨cq5, kq5, q5a, q5b, q5c⟩ := isOf hZ e4 EB
  obtain ⟨_, _, ⟨T5, L5, k5, n5⟩, -, X5, ⟨Lc5, hQ5, l5, y5, z5⟩, st5⟩ := X4.virtualBack hx (y := mn6) (z := mn6) hown (mvT hZ (wJ hw 135 rfl)) (mvT hZ (wJ hw 136 rfl)) (notFace_of_selects (args := #[]) (mvT hZ (wJ hw 138 rfl))) (mvT hZ (wJ hw 138 rfl)) (mvT hZ (wJ hw 137 rfl)) (by decide) (backOf (W := 0) (own_ftext l Z a0 hw [] a2 th h0 n0 Z0 FH) hZ (wJ hw 139 rfl) (wJ hw 28 rfl) (by decide) (by decide)) q5a q5c (g := (mkF m 83 #[.val (.ref a1), .val (.ref a2)] [(.ref a2)])) rfl (by rw [hml]; rfl) (Steps.refl _) (argsL := []) (rest := []) (lenOf pd___Ljava_lang_String_ rfl) rfl (by show 2 * 0 + _ ≤ _; exact Nat.le_of_eq rfl) (hb hby d16_83) (fun _ _ => ⟨rfl, e4, (by decide : 0 + 0 ≤ _), (by decide : 0 + 0 ≤ _)⟩)
  dsimp only [Pt.U, Pt.locs, Pt.cells, Pt.slots] at X5 l5 y5 z5 st5 hQ5
  replace X5 := X5.more (Nat.le_of_eq (show k5 = 0 from y5)) (Nat.le_of_eq (show n5 = 0 from z5))
  obtain ⟨rfl, Nq5, e5⟩ := hQ5
  have N5 : Fr n0 L5 := by rw [l5]; exact Fr.app N2 Nq5
  obtain ⟨T6, X6, e6, st6⟩ := getF X5 hx hZ hown (host := "") (Or.inl (wJ hw 106 rfl)) Via.refl e5 Fa (g := (mkF m 87 #[.val (.ref a1), .val (.ref a2)] [(.ref a1), (.ref th)])) rfl rfl (hb hby d16_87)
  obtain ⟨cq7, kq7, q7a, q7b, q7c⟩ := isOf hZ e6 EX
  obtain ⟨_, _, ⟨T7, L7, k7, n7⟩, -, X7, ⟨Lc7, hQ7, l7, y7, z7⟩, st7⟩ := X6.virtualBack hx (y := mn6) (z := mn6) hown (mvT hZ (wJ hw 135 rfl)) (mvT hZ (wJ hw 136 rfl)) (notFace_of_selects (args := #[]) (mvT hZ (wJ hw 138 rfl))) (mvT hZ (wJ hw 138 rfl)) (mvT hZ (wJ hw 137 rfl)) (by decide) (backOf (W := 1) (own_ftext l Z a0 hw [] wa tx h0 n0 Z0 FX) hZ (wJ hw 139 rfl) (wJ hw 28 rfl) (by decide) (by decide)) q7a q7c (g := (mkF m 90 #[.val (.ref a1), .val (.ref a2)] [(.ref wa), (.ref th)])) rfl (by rw [hml]; rfl) (Steps.refl _) (argsL := []) (rest := [(.ref th)]) (lenOf pd___Ljava_lang_String_ rfl) rfl (by show 2 * 0 + _ ≤ _; exact Nat.le_of_eq rfl) (hb hby d16_90) (fun _ _ => ⟨rfl, e6, (by decide : 0 + 0 ≤ _), (by decide : 0 + 0 ≤ _)⟩)
  dsimp only [Pt.U, Pt.locs, Pt.cells, Pt.slots] at X7 l7 y7 z7 st7 hQ7
  replace X7 := X7.more (Nat.le_of_eq (show k7 = 0 from y7)) (Nat.le_of_eq (show n7 = 0 from z7))
  obtain ⟨rfl, Nq7, e7⟩ := hQ7
  have N7 : Fr n0 L7 := by rw [l7]; exact Fr.app N5 Nq7
  obtain ⟨cq8, kq8, q8a, q8b, q8c⟩ := isOf hZ e7 SH.exa
  obtain ⟨_, _, ⟨T8, L8, k8, n8⟩, -, X8, ⟨Lc8, hQ8, l8, y8, z8⟩, st8⟩ := X7.virtualBack hx (y := mn33) (z := mn33) hown (mvT hZ (wJ hw 140 rfl)) (mvT hZ (wJ hw 118 rfl)) (notFace_of_selects (args := #[]) (mvT hZ (wJ hw 120 rfl))) (mvT hZ (wJ hw 120 rfl)) (mvT hZ (wJ hw 119 rfl)) (by decide) (backOf (W := 0) (own_eqS l Z a0 hw [] th tx uh ux cs nb h0 n0 Z0 SH SX hne SC hcs) hZ (wJ hw 121 rfl) (wJ hw 2 rfl) (by decide) (by decide)) q8a q8c (g := (mkF m 93 #[.val (.ref a1), .val (.ref a2)] [(.ref tx), (.ref th)])) rfl (by rw [hml]; rfl) (Steps.refl _) (argsL := [(.ref tx)]) (rest := []) (lenOf pd__Ljava_lang_Object__Z rfl) rfl (by show 2 * 0 + _ ≤ _; exact Nat.le_of_eq rfl) (hb hby d16_93) (fun _ _ => ⟨rfl, e7, (by decide : 0 + 0 ≤ _), (by decide : 0 + 0 ≤ _)⟩)
  dsimp only [Pt.U, Pt.locs, Pt.cells, Pt.slots] at X8 l8 y8 z8 st8 hQ8
  replace X8 := X8.more (Nat.le_of_eq (show k8 = 0 from y8)) (Nat.le_of_eq (show n8 = 0 from z8))
  obtain ⟨rfl, Nq8, e8⟩ := hQ8
  have N8 : Fr n0 L8 := by rw [l8]; exact Fr.app N7 Nq8
  obtain ⟨fs, hr, hrun, hended, hW, hsame⟩ := X8.leave (v := some .null) (fun h => by rw [Bd.returns] at h; cases h)
  refine ⟨_, _, pre0 _ ?_, hrun, hended, _, _, rfl, ?_, ⟨_, rfl⟩, hW, hsame.mono (by decide) (by decide)⟩
  · show Steps p.tables e below (s₁.setTop (mkF m 0 #[.val (.ref a1), .val (.ref a2)] [])) _
    refine XS.aloadN X0.here hx rfl (hb hby d16_0) rfl rfl ?_
    refine st1.trans ?_
    refine XS.ifnullYes X1.here hx rfl (pc0 := 4) (pc' := 12) rfl (hb hby d16_4) rfl (by decide) (by decide) ?_
    refine XS.aloadN X1.here hx rfl (hb hby d16_12) rfl rfl ?_
    show Steps _ _ _ (T1.setTop (mkF m 13 #[.val (.ref a1), .val (.ref a2)] [(.ref a2)])) _
    refine st2.trans ?_
    refine XS.aloadN X2.here hx rfl (hb hby d16_16) rfl rfl ?_
    refine st3 _ ?_
    refine XS.icmpYes X3.here hx rfl (pc0 := 20) (pc' := 75) rfl (hb hby d16_20) rfl (teq (rfl : dd = dd)).1 (by decide) (by decide) ?_
    show Steps _ _ _ (T3.setTop (mkF m 75 #[.val (.ref a1), .val (.ref a2)] [])) _
    refine XS.aloadN X3.here hx rfl (hb hby d16_75) rfl rfl ?_
    refine st4 _ ?_
    refine XS.ifnullNo X4.here hx rfl (hb hby d16_79) rfl ?_
    refine XS.aloadN X4.here hx rfl (hb hby d16_82) rfl rfl ?_
    show Steps _ _ _ (T4.setTop (mkF m 83 #[.val (.ref a1), .val (.ref a2)] [(.ref a2)])) _
    refine st5.trans ?_
    refine XS.aloadN X5.here hx rfl (hb hby d16_86) rfl rfl ?_
    refine st6 _ ?_
    refine st7.trans ?_
    show Steps _ _ _ (T7.setTop (mkF m 93 #[.val (.ref a1), .val (.ref a2)] [(.ref tx), (.ref th)])) _
    refine st8.trans ?_
    refine XS.ifYes X8.here hx rfl (pc0 := 96) (pc' := 130) rfl (hb hby d16_96) rfl ((if0 _ _).trans (feq (by rw [show own_eq uh ux = 1 from if_pos hq]; decide : ¬ ((own_eq uh ux) = (0 : Int32)))).2) (by decide) (by decide) ?_
    refine XS.aconstNull X8.here hx rfl (hb hby d16_130) ?_
    show Steps _ _ _ (T8.setTop (mkF m 131 #[.val (.ref a1), .val (.ref a2)] [.null])) _
    exact retOut X8 hx Bd.returns rfl (Or.inr (Or.inr (Or.inr (Or.inr ⟨rfl, rfl, rfl⟩)))) (hb hby d16_131) hr
  · show Qown_rsE Z a1 a2 dd wa tx th ux uh cs nb h0 n0 _ T8.heap _
    rw [e8]
    exact ⟨rfl, N8, rfl⟩
theorem d16_99 : decode c16 99 = .ok (.new 36, 3) := by decide +kernel
theorem d16_102 : decode c16 102 = .ok (.dup, 1) := by decide +kernel
theorem d16_103 : decode c16 103 = .ok (.invokespecial 38, 3) := by decide +kernel
theorem d16_106 : decode c16 106 = .ok (.ldc 68, 2) := by decide +kernel
theorem d16_108 : decode c16 108 = .ok (.invokevirtual 41, 3) := by decide +kernel
theorem d16_111 : decode c16 111 = .ok (.aload_n 0, 1) := by decide +kernel
theorem d16_112 : decode c16 112 = .ok (.getfield 55, 3) := by decide +kernel
theorem d16_115 : decode c16 115 = .ok (.invokevirtual 70, 3) := by decide +kernel
theorem d16_118 : decode c16 118 = .ok (.invokevirtual 41, 3) := by decide +kernel
theorem d16_121 : decode c16 121 = .ok (.ldc 73, 2) := by decide +kernel
theorem d16_123 : decode c16 123 = .ok (.invokevirtual 41, 3) := by decide +kernel
theorem d16_126 : decode c16 126 = .ok (.invokevirtual 52, 3) := by decide +kernel
theorem d16_129 : decode c16 129 = .ok (.areturn, 1) := by decide +kernel
theorem ef_own_rsN (m : MethodId) (x0 : Addr) (x1 : Addr) : entryFrame m #[(.ref x0), (.ref x1)] 2 = mkF m 0 #[.val (.ref x0), .val (.ref x1)] [] := by first | (simp [entryFrame, mkF, argsToLocals, Value.category]; done) | rfl
def Qown_rsN (Z : State) (a1 : Addr) (a2 : Addr) (dd : Int32) (wa : Addr) (tx : Addr) (th : Addr) (ux : Int32) (uh : Int32) (qp : Int64) (qo : Int64) (d1 : Addr) (d2 : Addr) (kd1 : ClassId) (kd2 : ClassId) (vo : List Value) (vt : List Value) (cs : Int32) (nb : Nat) (h0 : Heap) (n0 : Nat) (v : Option Value) (h : Heap) (L : List Loc) : Prop := (∃ t : Addr, v = some (.ref t) ∧ Fr n0 L ∧ Keep h0 h [])
theorem own_rsN (l : Launch) (Z : State) (a0 : Array Value) (hw : ∀ d ∈ tables_1, d.before a0 Z = true) (ws : List Jvm.Cond) (a1 : Addr) (a2 : Addr) (dd : Int32) (wa : Addr) (tx : Addr) (th : Addr) (ux : Int32) (uh : Int32) (qp : Int64) (qo : Int64) (d1 : Addr) (d2 : Addr) (kd1 : ClassId) (kd2 : ClassId) (vo : List Value) (vt : List Value) (cs : Int32) (nb : Nat) (h0 : Heap) (n0 : Nat) (Z0 : n0 ≤ h0.size) (hn0 : n0 = h0.size) (hold : ∀ (b : Addr) (cl : Cell), Z.heap[b]? = some cl → h0[b]? = some cl) (HC : ∀ q ∈ consts_1, Jvm.Lit.constHeld Z q.1 q.2) (HCW : Jvm.Lit.compactW.before a0 Z = true) (hnb : nb ≤ h0.size) (hqp : qp = (2 : Int64) ∨ qp = (3 : Int64)) (hqo : qo = (10 : Int64) ∨ qo = (20 : Int64)) (EA : Exa Z h0 a1 "com/example/hemotide/hemotide/link/Transfer") (EB : Exa Z h0 a2 "com/example/hemotide/hemotide/link/Frame") (Fd : Fld Z h0 a2 "com/example/hemotide/hemotide/link/Frame" "defect" "Ljava/lang/String;" .null) (Fn : Fld Z h0 a2 "com/example/hemotide/hemotide/link/Frame" "number" "I" (.int dd)) (Fu : Fld Z h0 a1 "com/example/hemotide/hemotide/link/Transfer" "due" "I" (.int dd)) (Fa : Fld Z h0 a1 "com/example/hemotide/hemotide/link/Transfer" "awaited" "Lcom/example/hemotide/hemotide/link/Frame;" (.ref wa)) (EX : Exa Z h0 wa "com/example/hemotide/hemotide/link/Frame") (FX : Fld Z h0 wa "com/example/hemotide/hemotide/link/Frame" "text" "Ljava/lang/String;" (.ref tx)) (FH : Fld Z h0 a2 "com/example/hemotide/hemotide/link/Frame" "text" "Ljava/lang/String;" (.ref th)) (SX : own_txt Z h0 tx ux) (SH : own_txt Z h0 th uh) (hne : th ≠ tx) (hq : ¬ uh = ux) (Fp : Fld Z h0 wa "com/example/hemotide/hemotide/link/Frame" "position" "J" (.long qp)) (Fo : Fld Z h0 wa "com/example/hemotide/hemotide/link/Frame" "offset" "J" (.long qo)) (SO : own_S Z h0 nb "java/lang/Integer" "DigitOnes" "[B" (.ref d1)) (ST : own_S Z h0 nb "java/lang/Integer" "DigitTens" "[B" (.ref d2)) (VO : Arv Z h0 d1 kd1 .byte (100 : Int32) vo (.int (0 : Int32))) (VT : Arv Z h0 d2 kd2 .byte (100 : Int32) vt (.int (0 : Int32))) (hd1 : d1 < nb) (hd2 : d2 < nb) (SC : own_S Z h0 nb "java/lang/String" "COMPACT_STRINGS" "Z" (.int cs)) (hcs : ¬ (cs = (0 : Int32))) :
    MetFree l mn10 (head1 (Jvm.Cond.code mn10 prog_35_method_2_code 2 (some (.object "java/lang/String")) :: ws) (⟨7, 21, 992, 104⟩ : Room)) (fun a U => a = #[(.ref a1), (.ref a2)] ∧ Z.Warmed39 U.vm ∧ U.heap = h0 ∧ IB Z U.vm [own_T305]) (fun _ _ _ _ _ => True) (fun _ U o U' => ∃ v L, o = .returned v ∧ Qown_rsN Z a1 a2 dd wa tx th ux uh qp qo d1 d2 kd1 kd2 vo vt cs nb h0 n0 v U'.heap L ∧ IB Z U'.vm [own_T289, own_T230, own_T227, own_T200, own_T143, own_T305] ∧ ReturnedEndW U o U' L (⟨7, 21, 992, 104⟩ : Room).cells (⟨7, 21, 992, 104⟩ : Room).slots) := by
  refine MetFree.of_bodySF (plainFor_of_name pn_com_example_hemotide_hemotide_link_Transfer) hisR ?_
  intro p e s m args below meth c s₁ Bd hml0 hP hK
  obtain ⟨rfl, hZ, hh, IBs⟩ := hP
  have hx := Bd.exec
  have hby := Bd.bytes
  have hml : c.maxLocals = 2 := hml0
  have hown : s.vm.findClass "com/example/hemotide/hemotide/link/Transfer" = some m.cls := findClass_of_methodNamed Bd.named
  have hnm := (name_of_methodNamed Bd.named Bd.method).1
  have X0 : Stand p l e (⟨7, 21, 992, 104⟩ : Room) s m #[(.ref a1), (.ref a2)] below meth c s₁ [] 0 0 := Stand.of_body Bd
  have e0 : s₁.heap = h0 := by rw [← hh, Bd.state]; rfl
  have N0 := Fr.nil n0
  have X0 : Stand p l e (⟨7, 21, 992, 104⟩ : Room) (s.setVm s.vm) m #[(.ref a1), (.ref a2)] below meth c s₁ [] 0 0 := X0
  have hS : s.Since s.vm h0.size := (State.WarmedH.refl s).since _
  obtain ⟨ks, hks⟩ : ∃ z, z = h0.size := ⟨_, rfl⟩
  rw [← hks] at hS
  have hk0 : ks ≤ h0.size := Nat.le_of_eq hks
  have own_wS : ∀ d ∈ Bundle.stringAtoms, d.before a0 Z = true := own_wSof hw
  have pre0 : ∀ t, Steps p.tables e below (s₁.setTop (mkF m 0 #[.val (.ref a1), .val (.ref a2)] [])) t → Steps p.tables e below (s₁.setTop (entryFrame m #[(.ref a1), (.ref a2)] 2)) t := fun t k => castTop (ef_own_rsN m (a1) (a2)) k
  have SC0 := own_S.mono hnb SC
  have SO0 := own_S.mono hnb SO
  have ST0 := own_S.mono hnb ST
  have ld1 := Nat.lt_of_lt_of_le hd1 hnb
  have ld2 := Nat.lt_of_lt_of_le hd2 hnb
  obtain ⟨cq1, kq1, q1a, q1b, q1c⟩ := isOf hZ e0 EB
  obtain ⟨_, _, ⟨T1, L1, k1, n1⟩, -, X1, ⟨Lc1, hQ1, l1, y1, z1⟩, st1⟩ := X0.virtualBack hx (y := mn2) (z := mn2) hown (mvT hZ (wJ hw 108 rfl)) (mvT hZ (wJ hw 109 rfl)) (notFace_of_selects (args := #[]) (mvT hZ (wJ hw 111 rfl))) (mvT hZ (wJ hw 111 rfl)) (mvT hZ (wJ hw 110 rfl)) (by decide) (backOf (W := 0) (own_fdefect l Z a0 hw [] a2 .null h0 n0 Z0 Fd rfl) hZ (wJ hw 112 rfl) (wJ hw 28 rfl) (by decide) (by decide)) q1a q1c (g := (mkF m 1 #[.val (.ref a1), .val (.ref a2)] [(.ref a2)])) rfl (by rw [hml]; rfl) (Steps.refl _) (argsL := []) (rest := []) (lenOf pd___Ljava_lang_String_ rfl) rfl (by show 2 * 0 + _ ≤ _; exact Nat.le_of_eq rfl) (hb hby d16_1) (fun _ _ => ⟨rfl, e0, (by decide : 0 + 0 ≤ _), (by decide : 0 + 0 ≤ _)⟩)
  dsimp only [Pt.U, Pt.locs, Pt.cells, Pt.slots] at X1 l1 y1 z1 st1 hQ1
  replace X1 := X1.more (Nat.le_of_eq (show k1 = 0 from y1)) (Nat.le_of_eq (show n1 = 0 from z1))
  obtain ⟨rfl, Nq1, e1⟩ := hQ1
  have N1 : Fr n0 L1 := by rw [l1]; exact Fr.app N0 Nq1
  obtain ⟨cq2, kq2, q2a, q2b, q2c⟩ := isOf hZ e1 EB
  obtain ⟨_, _, ⟨T2, L2, k2, n2⟩, -, X2, ⟨Lc2, hQ2, l2, y2, z2⟩, st2⟩ := X1.virtualBack hx (y := mn5) (z := mn5) hown (mvT hZ (wJ hw 130 rfl)) (mvT hZ (wJ hw 131 rfl)) (notFace_of_selects (args := #[]) (mvT hZ (wJ hw 133 rfl))) (mvT hZ (wJ hw 133 rfl)) (mvT hZ (wJ hw 132 rfl)) (by decide) (backOf (W := 0) (own_fnumber l Z a0 hw [] a2 dd h0 n0 Z0 Fn) hZ (wJ hw 134 rfl) (wJ hw 28 rfl) (by decide) (by decide)) q2a q2c (g := (mkF m 13 #[.val (.ref a1), .val (.ref a2)] [(.ref a2)])) rfl (by rw [hml]; rfl) (Steps.refl _) (argsL := []) (rest := []) (lenOf pd___I rfl) rfl (by show 2 * 0 + _ ≤ _; exact Nat.le_of_eq rfl) (hb hby d16_13) (fun _ _ => ⟨rfl, e1, (by decide : 0 + 0 ≤ _), (by decide : 0 + 0 ≤ _)⟩)
  dsimp only [Pt.U, Pt.locs, Pt.cells, Pt.slots] at X2 l2 y2 z2 st2 hQ2
  replace X2 := X2.more (Nat.le_of_eq (show k2 = 0 from y2)) (Nat.le_of_eq (show n2 = 0 from z2))
  obtain ⟨rfl, Nq2, e2⟩ := hQ2
  have N2 : Fr n0 L2 := by rw [l2]; exact Fr.app N1 Nq2
  obtain ⟨T3, X3, e3, st3⟩ := getF X2 hx hZ hown (host := "") (Or.inl (wJ hw 99 rfl)) Via.refl e2 Fu (g := (mkF m 17 #[.val (.ref a1), .val (.ref a2)] [(.ref a1), (.int dd)])) rfl rfl (hb hby d16_17)
  obtain ⟨T4, X4, e4, st4⟩ := getF X3 hx hZ hown (host := "") (Or.inl (wJ hw 106 rfl)) Via.refl e3 Fa (g := (mkF m 76 #[.val (.ref a1), .val (.ref a2)] [(.ref a1)])) rfl rfl (hb hby d16_76)
  obtain ⟨cq5, kq5, q5a, q5b, q5c⟩ := isOf hZ e4 EB
  obtain ⟨_, _, ⟨T5, L5, k5, n5⟩, -, X5, ⟨Lc5, hQ5, l5, y5, z5⟩, st5⟩ := X4.virtualBack hx (y := mn6) (z := mn6) hown (mvT hZ (wJ hw 135 rfl)) (mvT hZ (wJ hw 136 rfl)) (notFace_of_selects (args := #[]) (mvT hZ (wJ hw 138 rfl))) (mvT hZ (wJ hw 138 rfl)) (mvT hZ (wJ hw 137 rfl)) (by decide) (backOf (W := 0) (own_ftext l Z a0 hw [] a2 th h0 n0 Z0 FH) hZ (wJ hw 139 rfl) (wJ hw 28 rfl) (by decide) (by decide)) q5a q5c (g := (mkF m 83 #[.val (.ref a1), .val (.ref a2)] [(.ref a2)])) rfl (by rw [hml]; rfl) (Steps.refl _) (argsL := []) (rest := []) (lenOf pd___Ljava_lang_String_ rfl) rfl (by show 2 * 0 + _ ≤ _; exact Nat.le_of_eq rfl) (hb hby d16_83) (fun _ _ => ⟨rfl, e4, (by decide : 0 + 0 ≤ _), (by decide : 0 + 0 ≤ _)⟩)
  dsimp only [Pt.U, Pt.locs, Pt.cells, Pt.slots] at X5 l5 y5 z5 st5 hQ5
  replace X5 := X5.more (Nat.le_of_eq (show k5 = 0 from y5)) (Nat.le_of_eq (show n5 = 0 from z5))
  obtain ⟨rfl, Nq5, e5⟩ := hQ5
  have N5 : Fr n0 L5 := by rw [l5]; exact Fr.app N2 Nq5
  obtain ⟨T6, X6, e6, st6⟩ := getF X5 hx hZ hown (host := "") (Or.inl (wJ hw 106 rfl)) Via.refl e5 Fa (g := (mkF m 87 #[.val (.ref a1), .val (.ref a2)] [(.ref a1), (.ref th)])) rfl rfl (hb hby d16_87)
  obtain ⟨cq7, kq7, q7a, q7b, q7c⟩ := isOf hZ e6 EX
  obtain ⟨_, _, ⟨T7, L7, k7, n7⟩, -, X7, ⟨Lc7, hQ7, l7, y7, z7⟩, st7⟩ := X6.virtualBack hx (y := mn6) (z := mn6) hown (mvT hZ (wJ hw 135 rfl)) (mvT hZ (wJ hw 136 rfl)) (notFace_of_selects (args := #[]) (mvT hZ (wJ hw 138 rfl))) (mvT hZ (wJ hw 138 rfl)) (mvT hZ (wJ hw 137 rfl)) (by decide) (backOf (W := 1) (own_ftext l Z a0 hw [] wa tx h0 n0 Z0 FX) hZ (wJ hw 139 rfl) (wJ hw 28 rfl) (by decide) (by decide)) q7a q7c (g := (mkF m 90 #[.val (.ref a1), .val (.ref a2)] [(.ref wa), (.ref th)])) rfl (by rw [hml]; rfl) (Steps.refl _) (argsL := []) (rest := [(.ref th)]) (lenOf pd___Ljava_lang_String_ rfl) rfl (by show 2 * 0 + _ ≤ _; exact Nat.le_of_eq rfl) (hb hby d16_90) (fun _ _ => ⟨rfl, e6, (by decide : 0 + 0 ≤ _), (by decide : 0 + 0 ≤ _)⟩)
  dsimp only [Pt.U, Pt.locs, Pt.cells, Pt.slots] at X7 l7 y7 z7 st7 hQ7
  replace X7 := X7.more (Nat.le_of_eq (show k7 = 0 from y7)) (Nat.le_of_eq (show n7 = 0 from z7))
  obtain ⟨rfl, Nq7, e7⟩ := hQ7
  have N7 : Fr n0 L7 := by rw [l7]; exact Fr.app N5 Nq7
  obtain ⟨cq8, kq8, q8a, q8b, q8c⟩ := isOf hZ e7 SH.exa
  obtain ⟨_, _, ⟨T8, L8, k8, n8⟩, -, X8, ⟨Lc8, hQ8, l8, y8, z8⟩, st8⟩ := X7.virtualBack hx (y := mn33) (z := mn33) hown (mvT hZ (wJ hw 140 rfl)) (mvT hZ (wJ hw 118 rfl)) (notFace_of_selects (args := #[]) (mvT hZ (wJ hw 120 rfl))) (mvT hZ (wJ hw 120 rfl)) (mvT hZ (wJ hw 119 rfl)) (by decide) (backOf (W := 0) (own_eqS l Z a0 hw [] th tx uh ux cs nb h0 n0 Z0 SH SX hne SC hcs) hZ (wJ hw 121 rfl) (wJ hw 2 rfl) (by decide) (by decide)) q8a q8c (g := (mkF m 93 #[.val (.ref a1), .val (.ref a2)] [(.ref tx), (.ref th)])) rfl (by rw [hml]; rfl) (Steps.refl _) (argsL := [(.ref tx)]) (rest := []) (lenOf pd__Ljava_lang_Object__Z rfl) rfl (by show 2 * 0 + _ ≤ _; exact Nat.le_of_eq rfl) (hb hby d16_93) (fun _ _ => ⟨rfl, e7, (by decide : 0 + 0 ≤ _), (by decide : 0 + 0 ≤ _)⟩)
  dsimp only [Pt.U, Pt.locs, Pt.cells, Pt.slots] at X8 l8 y8 z8 st8 hQ8
  replace X8 := X8.more (Nat.le_of_eq (show k8 = 0 from y8)) (Nat.le_of_eq (show n8 = 0 from z8))
  obtain ⟨rfl, Nq8, e8⟩ := hQ8
  have N8 : Fr n0 L8 := by rw [l8]; exact Fr.app N7 Nq8
  obtain ⟨T9, h9, X9, e9, E9, A9, D9, -, st9⟩ := newO X8 hx hZ hown (wJ hw 141 rfl) (wJ hw 78 rfl) (wJ hw 79 rfl) e8 (g := (mkF m 99 #[.val (.ref a1), .val (.ref a2)] [])) rfl (hb hby d16_99) (by decide) (by decide)
  obtain ⟨b9, g9⟩ : ∃ z, z = h0.size := ⟨_, rfl⟩
  rw [← g9] at A9 D9 st9
  have g_b9 : n0 ≤ b9 := Nat.le_trans Z0 (Nat.le_of_eq g9.symm)
  have sz_b9 : h0.size ≤ b9 := Nat.le_trans (own_W.refl h0.size h0).size (Nat.le_of_eq g9.symm)
  have Z9 : n0 ≤ h9.size := Nat.le_trans Z0 E9.1
  have hk9 : ks ≤ h9.size := Nat.le_trans hk0 E9.1
  have WW9 : own_W h0.size h0 h9 := own_W.ext (own_W.refl h0.size h0) E9
  have F_value_b9 : Fld Z h9 b9 "java/lang/AbstractStringBuilder" "value" "[B" .null := D9 (Or.inl (wJ hw 92 rfl)) (ty := (.array .byte)) (by decide)
  have F_coder_b9 : Fld Z h9 b9 "java/lang/AbstractStringBuilder" "coder" "B" (.int (0 : Int32)) := D9 (Or.inl (wJ hw 94 rfl)) (ty := .byte) (by decide)
  have F_count_b9 : Fld Z h9 b9 "java/lang/AbstractStringBuilder" "count" "I" (.int (0 : Int32)) := D9 (Or.inl (wJ hw 167 rfl)) (ty := .int) (by decide)
  have w_b9 := sz_b9
  obtain ⟨_, _, ⟨T10, L10, k10, n10⟩, -, X10, ⟨Lc10, hQ10, l10, y10, z10⟩, st10⟩ := X9.specialBack hx (y := mn37) rfl hown (mvT hZ (wJ hw 142 rfl)) (mvT hZ (wJ hw 81 rfl)) (mvT hZ (wJ hw 82 rfl)) (by decide) (backOf (W := 1) (own_sbi l Z a0 hw [] b9 cs h0.size h9 n0 Z9 F_value_b9 F_coder_b9 F_count_b9 A9 sz_b9 Z0 WW9.size (own_S.W SC0 WW9) hcs) hZ (wJ hw 82 rfl) (wJ hw 79 rfl) (by decide) (by decide)) (g := (mkF m 103 #[.val (.ref a1), .val (.ref a2)] [(.ref b9), (.ref b9)])) rfl (by rw [hml]; rfl) (Steps.refl _) (a := b9) (argsL := []) (rest := [(.ref b9)]) (lenOf pd___V rfl) rfl (by show 2 * 0 + _ ≤ _; exact Nat.le_of_eq rfl) (hb hby d16_103) (fun _ _ => ⟨rfl, e9, (by decide : 1 + 1 ≤ _), (by decide : 4 + 16 ≤ _)⟩)
  dsimp only [Pt.U, Pt.locs, Pt.cells, Pt.slots] at X10 l10 y10 z10 st10 hQ10
  replace X10 := X10.more (Nat.le_of_eq (show k10 = 2 from y10)) (Nat.le_of_eq (show n10 = 20 from z10))
  obtain ⟨rfl, Nq10, Kq10, B0⟩ := hQ10
  have Z10 : n0 ≤ T10.heap.size := Nat.le_trans Z9 Kq10.1
  have hk10 : ks ≤ T10.heap.size := Nat.le_trans hk9 Kq10.1
  have WW10 : own_W h0.size h0 T10.heap := own_W.keep WW9 Kq10 (allS w_b9 all0)
  have N10 : Fr n0 L10 := by rw [l10]; exact Fr.app N8 Nq10
  obtain ⟨sa11, T11, h11, ks, sb11, sk11, X11, e11, E11, hS, hks11, hZ, hown, Ea11, Fc11, Fv11, V11, lta11, ltb11, IBs, Lit11, st11⟩ := ldcSVL (text := own_T143) X10 hx hZ hown (wJ hw 143 rfl) own_wS rfl hS hk10 (by rw [hh]; exact hn0 ▸ N10) (fun b cl q => by rw [hh]; exact hold b cl q) IBs (by decide +kernel) (HC _ (wI 3 rfl)) HCW (vs := own_vs own_T143) (z := (10 : Int32)) (own_ht (by decide +kernel)) (by decide) (by decide +kernel) (g := (mkF m 106 #[.val (.ref a1), .val (.ref a2)] [(.ref b9)])) rfl (hb hby d16_106) (n := 40) (by decide +kernel) (by decide) (by decide) (by decide)
  have Z11 : n0 ≤ h11.size := Nat.le_trans Z10 E11.1
  have WW11 : own_W h0.size h0 h11 := own_W.ext WW10 E11
  have S11 : own_str Z h11 sa11 (10 : Int32) := ⟨sb11, sk11, _, Ea11, Fv11, Fc11, V11, by decide +kernel⟩
  have Bk11 := B0.keep ((Keep.refl _ []).ext E11)
  obtain ⟨cq12, kq12, q12a, q12b, q12c⟩ := isOf hZ e11 Bk11.exa
  obtain ⟨_, _, ⟨T12, L12, k12, n12⟩, -, X12, ⟨Lc12, hQ12, l12, y12, z12⟩, st12⟩ := X11.virtualBack hx (y := mn39) (z := mn39) hown (mvT hZ (wJ hw 146 rfl)) (mvT hZ (wJ hw 147 rfl)) (notFace_of_selects (args := #[]) (mvT hZ (wJ hw 149 rfl))) (mvT hZ (wJ hw 149 rfl)) (mvT hZ (wJ hw 148 rfl)) (by decide) (backOf (W := 0) (own_sbSN l Z a0 hw [] b9 sa11 (16 : Int32) (0 : Int32) (10 : Int32) cs h0.size h11 n0 Z11 Bk11 S11 Z0 WW11.size (by decide) (by decide) (by decide) (own_S.W SC0 WW11) hcs) hZ (wJ hw 150 rfl) (wJ hw 79 rfl) (by decide) (by decide)) q12a q12c (g := (mkF m 108 #[.val (.ref a1), .val (.ref a2)] [(.ref sa11), (.ref b9)])) rfl (by rw [hml]; rfl) (Steps.refl _) (argsL := [(.ref sa11)]) (rest := []) (lenOf pd__Ljava_lang_String__Ljava_lang_StringBuilder_ rfl) rfl (by show 2 * 0 + _ ≤ _; exact Nat.le_of_eq rfl) (hb hby d16_108) (fun _ _ => ⟨rfl, e11, (by decide : 4 + 0 ≤ _), (by decide : 64 + 0 ≤ _)⟩)
  dsimp only [Pt.U, Pt.locs, Pt.cells, Pt.slots] at X12 l12 y12 z12 st12 hQ12
  replace X12 := X12.more (Nat.le_of_eq (show k12 = 4 from y12)) (Nat.le_of_eq (show n12 = 64 from z12))
  obtain ⟨rfl, Nq12, Wq12, Bq⟩ := hQ12
  have Z12 : n0 ≤ T12.heap.size := Nat.le_trans Z11 Wq12.size
  have hk12 : ks ≤ T12.heap.size := Nat.le_trans hks11 Wq12.size
  have WW12 : own_W h0.size h0 T12.heap := own_W.trans WW11 (own_W.mono (Nat.le_refl _) Wq12)
  have N12 : Fr n0 L12 := by rw [l12]; exact Fr.app N10 Nq12
  have B12 : own_sb Z T12.heap h0.size b9 (16 : Int32) (10 : Int32) := own_sb.cast (by decide) (by decide) Bq
  obtain ⟨T13, X13, e13, st13⟩ := getF X12 hx hZ hown (host := "") (Or.inl (wJ hw 106 rfl)) Via.refl rfl (own_W.fld Fa EA.lt WW12) (g := (mkF m 112 #[.val (.ref a1), .val (.ref a2)] [(.ref a1), (.ref b9)])) rfl rfl (hb hby d16_112)
  obtain ⟨cq14, kq14, q14a, q14b, q14c⟩ := isOf hZ e13 (own_W.exa EX EX.lt WW12)
  obtain ⟨_, _, ⟨T14, L14, k14, n14⟩, -, X14, hS14, hgr14, ⟨Lc14, hQ14, IBs, l14, y14, z14⟩, st14⟩ := X13.virtualBackS hx (y := mn3) (z := mn3) hown (mvT hZ (wJ hw 193 rfl)) (mvT hZ (wJ hw 194 rfl)) (notFace_of_selects (args := #[]) (mvT hZ (wJ hw 196 rfl))) (mvT hZ (wJ hw 196 rfl)) (mvT hZ (wJ hw 195 rfl)) (by decide) (own_backS (W := 1) (own_desc l Z a0 hw [] wa qp qo d1 d2 kd1 kd2 vo vt cs h0.size T12.heap T12.heap.size (Nat.le_refl _) rfl (fun b cl q => WW12.keep0.2.1 b cl (hold b cl q) nin0) HC HCW WW12.size hqp hqo (own_W.exa EX EX.lt WW12) (own_W.fld Fp EX.lt WW12) (own_W.fld Fo EX.lt WW12) (own_S.W SO0 WW12) (own_S.W ST0 WW12) (own_W.arv VO ld1 WW12) (own_W.arv VT ld2 WW12) ld1 ld2 (own_S.W SC0 WW12) hcs) hZ IBs (wJ hw 197 rfl) (wJ hw 28 rfl) (by decide) (by decide)) q14a q14c (g := (mkF m 115 #[.val (.ref a1), .val (.ref a2)] [(.ref wa), (.ref b9)])) rfl (by rw [hml]; rfl) (Steps.refl _) (argsL := []) (rest := [(.ref b9)]) (lenOf pd___Ljava_lang_String_ rfl) rfl (by show 2 * 0 + _ ≤ _; exact Nat.le_of_eq rfl) (hb hby d16_115) (fun _ _ => ⟨rfl, e13, (by decide : 4 + 11 ≤ _), (by decide : 64 + 237 ≤ _)⟩)
  dsimp only [Pt.U, Pt.locs, Pt.cells, Pt.slots] at X14 hS14 hgr14 IBs l14 y14 z14 st14 hQ14
  obtain ⟨X14, hS, hZ, hown⟩ := rebS hS (show _ ≤ _ from hk12) X14 hS14 (e13 ▸ hgr14) hZ hown
  obtain ⟨ks, hks14⟩ : ∃ z, z = T14.heap.size := ⟨_, rfl⟩
  rw [← hks14] at hS
  have hk14 : ks ≤ T14.heap.size := Nat.le_of_eq hks14
  replace X14 := X14.more (Nat.le_of_eq (show k14 = 15 from y14)) (Nat.le_of_eq (show n14 = 301 from z14))
  obtain ⟨td, rfl, Nq14, Kq14, Sd⟩ := hQ14
  have Z14 : n0 ≤ T14.heap.size := Nat.le_trans Z12 Kq14.1
  have WW14 : own_W h0.size h0 T14.heap := own_W.keep WW12 Kq14 all0
  have N14 : Fr n0 L14 := by rw [l14]; exact Fr.app N12 (own_Frm Z12 Nq14)
  have Bd14 := B12.keep Kq14
  obtain ⟨cq15, kq15, q15a, q15b, q15c⟩ := isOf hZ rfl Bd14.exa
  obtain ⟨_, _, ⟨T15, L15, k15, n15⟩, -, X15, ⟨Lc15, hQ15, l15, y15, z15⟩, st15⟩ := X14.virtualBack hx (y := mn39) (z := mn39) hown (mvT hZ (wJ hw 146 rfl)) (mvT hZ (wJ hw 147 rfl)) (notFace_of_selects (args := #[]) (mvT hZ (wJ hw 149 rfl))) (mvT hZ (wJ hw 149 rfl)) (mvT hZ (wJ hw 148 rfl)) (by decide) (backOf (W := 0) (own_sbSG l Z a0 hw [] b9 td (16 : Int32) (10 : Int32) (17 : Int32) cs h0.size T14.heap n0 Z14 Bd14 Sd Z0 WW14.size (by decide) (by decide) (by unfold own_gr; decide) (own_S.W SC0 WW14) hcs) hZ (wJ hw 150 rfl) (wJ hw 79 rfl) (by decide) (by decide)) q15a q15c (g := (mkF m 118 #[.val (.ref a1), .val (.ref a2)] [(.ref td), (.ref b9)])) rfl (by rw [hml]; rfl) (Steps.refl _) (argsL := [(.ref td)]) (rest := []) (lenOf pd__Ljava_lang_String__Ljava_lang_StringBuilder_ rfl) rfl (by show 2 * 0 + _ ≤ _; exact Nat.le_of_eq rfl) (hb hby d16_118) (fun _ _ => ⟨rfl, rfl, (by decide : 15 + 1 ≤ _), (by decide : 301 + 128 ≤ _)⟩)
  dsimp only [Pt.U, Pt.locs, Pt.cells, Pt.slots] at X15 l15 y15 z15 st15 hQ15
  replace X15 := X15.more (Nat.le_of_eq (show k15 = 16 from y15)) (Nat.le_of_eq (show n15 = 429 from z15))
  obtain ⟨rfl, Nq15, Wq15, Bq⟩ := hQ15
  have Z15 : n0 ≤ T15.heap.size := Nat.le_trans Z14 Wq15.size
  have hk15 : ks ≤ T15.heap.size := Nat.le_trans hk14 Wq15.size
  have WW15 : own_W h0.size h0 T15.heap := own_W.trans WW14 (own_W.mono (Nat.le_refl _) Wq15)
  have N15 : Fr n0 L15 := by rw [l15]; exact Fr.app N14 Nq15
  have B15 : own_sb Z T15.heap h0.size b9 (34 : Int32) (27 : Int32) := own_sb.cast (by decide) (by decide) Bq
  obtain ⟨sa16, T16, h16, ks, sb16, sk16, X16, e16, E16, hS, hks16, hZ, hown, Ea16, Fc16, Fv16, V16, lta16, ltb16, IBs, Lit16, st16⟩ := ldcSVL (text := own_T289) X15 hx hZ hown (wJ hw 289 rfl) own_wS rfl hS hk15 (by rw [hh]; exact hn0 ▸ N15) (fun b cl q => by rw [hh]; exact hold b cl q) IBs (by decide +kernel) (HC _ (wI 4 rfl)) HCW (vs := own_vs own_T289) (z := (80 : Int32)) (own_ht (by decide +kernel)) (by decide) (by decide +kernel) (g := (mkF m 121 #[.val (.ref a1), .val (.ref a2)] [(.ref b9)])) rfl (hb hby d16_121) (n := 320) (by decide +kernel) (by decide) (by decide) (by decide)
  have Z16 : n0 ≤ h16.size := Nat.le_trans Z15 E16.1
  have WW16 : own_W h0.size h0 h16 := own_W.ext WW15 E16
  have S16 : own_str Z h16 sa16 (80 : Int32) := ⟨sb16, sk16, _, Ea16, Fv16, Fc16, V16, by decide +kernel⟩
  have Bk16 := B15.keep ((Keep.refl _ []).ext E16)
  obtain ⟨cq17, kq17, q17a, q17b, q17c⟩ := isOf hZ e16 Bk16.exa
  obtain ⟨_, _, ⟨T17, L17, k17, n17⟩, -, X17, ⟨Lc17, hQ17, l17, y17, z17⟩, st17⟩ := X16.virtualBack hx (y := mn39) (z := mn39) hown (mvT hZ (wJ hw 146 rfl)) (mvT hZ (wJ hw 147 rfl)) (notFace_of_selects (args := #[]) (mvT hZ (wJ hw 149 rfl))) (mvT hZ (wJ hw 149 rfl)) (mvT hZ (wJ hw 148 rfl)) (by decide) (backOf (W := 0) (own_sbSG l Z a0 hw [] b9 sa16 (34 : Int32) (27 : Int32) (80 : Int32) cs h0.size h16 n0 Z16 Bk16 S16 Z0 WW16.size (by decide) (by decide) (by unfold own_gr; decide) (own_S.W SC0 WW16) hcs) hZ (wJ hw 150 rfl) (wJ hw 79 rfl) (by decide) (by decide)) q17a q17c (g := (mkF m 123 #[.val (.ref a1), .val (.ref a2)] [(.ref sa16), (.ref b9)])) rfl (by rw [hml]; rfl) (Steps.refl _) (argsL := [(.ref sa16)]) (rest := []) (lenOf pd__Ljava_lang_String__Ljava_lang_StringBuilder_ rfl) rfl (by show 2 * 0 + _ ≤ _; exact Nat.le_of_eq rfl) (hb hby d16_123) (fun _ _ => ⟨rfl, e16, (by decide : 18 + 1 ≤ _), (by decide : 753 + 128 ≤ _)⟩)
  dsimp only [Pt.U, Pt.locs, Pt.cells, Pt.slots] at X17 l17 y17 z17 st17 hQ17
  replace X17 := X17.more (Nat.le_of_eq (show k17 = 19 from y17)) (Nat.le_of_eq (show n17 = 881 from z17))
  obtain ⟨rfl, Nq17, Wq17, Bq⟩ := hQ17
  have Z17 : n0 ≤ T17.heap.size := Nat.le_trans Z16 Wq17.size
  have hk17 : ks ≤ T17.heap.size := Nat.le_trans hks16 Wq17.size
  have WW17 : own_W h0.size h0 T17.heap := own_W.trans WW16 (own_W.mono (Nat.le_refl _) Wq17)
  have N17 : Fr n0 L17 := by rw [l17]; exact Fr.app N15 Nq17
  have B17 : own_sb Z T17.heap h0.size b9 (107 : Int32) (107 : Int32) := own_sb.cast (by decide) (by decide) Bq
  obtain ⟨cq18, kq18, q18a, q18b, q18c⟩ := isOf hZ rfl B17.exa
  obtain ⟨_, _, ⟨T18, L18, k18, n18⟩, -, X18, ⟨Lc18, hQ18, l18, y18, z18⟩, st18⟩ := X17.virtualBack hx (y := mn41) (z := mn41) hown (mvT hZ (wJ hw 290 rfl)) (mvT hZ (wJ hw 255 rfl)) (notFace_of_selects (args := #[]) (mvT hZ (wJ hw 257 rfl))) (mvT hZ (wJ hw 257 rfl)) (mvT hZ (wJ hw 256 rfl)) (by decide) (backOf (W := 0) (own_tos_107 l Z a0 hw [] b9 h0.size cs h0.size T17.heap n0 Z17 B17 (own_S.W SC0 WW17) hcs) hZ (wJ hw 258 rfl) (wJ hw 79 rfl) (by decide) (by decide)) q18a q18c (g := (mkF m 126 #[.val (.ref a1), .val (.ref a2)] [(.ref b9)])) rfl (by rw [hml]; rfl) (Steps.refl _) (argsL := []) (rest := []) (lenOf pd___Ljava_lang_String_ rfl) rfl (by show 2 * 0 + _ ≤ _; exact Nat.le_of_eq rfl) (hb hby d16_126) (fun _ _ => ⟨rfl, rfl, (by decide : 19 + 2 ≤ _), (by decide : 881 + 111 ≤ _)⟩)
  dsimp only [Pt.U, Pt.locs, Pt.cells, Pt.slots] at X18 l18 y18 z18 st18 hQ18
  replace X18 := X18.more (Nat.le_of_eq (show k18 = 21 from y18)) (Nat.le_of_eq (show n18 = 992 from z18))
  obtain ⟨tt, rfl, Nq18, Kq18, stt, Stt⟩ := hQ18
  have Z18 : n0 ≤ T18.heap.size := Nat.le_trans Z17 Kq18.1
  have hk18 : ks ≤ T18.heap.size := Nat.le_trans hk17 Kq18.1
  have WW18 : own_W h0.size h0 T18.heap := own_W.keep WW17 Kq18 all0
  have N18 : Fr n0 L18 := by rw [l18]; exact Fr.app N17 Nq18
  obtain ⟨fs, hr, hrun, hended, hend⟩ := X18.leaveW hS hk18 (v := some (.ref tt)) (fun h => by rw [Bd.returns] at h; cases h)
  refine ⟨_, _, pre0 _ ?_, hrun, hended, _, _, rfl, ?_, ?_, ⟨_, rfl⟩, hend.2.1, hend.2.2.1, hend.2.2.2.mono (by decide) (by decide)⟩
  · show Steps p.tables e below (s₁.setTop (mkF m 0 #[.val (.ref a1), .val (.ref a2)] [])) _
    refine XS.aloadN X0.here hx rfl (hb hby d16_0) rfl rfl ?_
    refine st1.trans ?_
    refine XS.ifnullYes X1.here hx rfl (pc0 := 4) (pc' := 12) rfl (hb hby d16_4) rfl (by decide) (by decide) ?_
    refine XS.aloadN X1.here hx rfl (hb hby d16_12) rfl rfl ?_
    show Steps _ _ _ (T1.setTop (mkF m 13 #[.val (.ref a1), .val (.ref a2)] [(.ref a2)])) _
    refine st2.trans ?_
    refine XS.aloadN X2.here hx rfl (hb hby d16_16) rfl rfl ?_
    refine st3 _ ?_
    refine XS.icmpYes X3.here hx rfl (pc0 := 20) (pc' := 75) rfl (hb hby d16_20) rfl (teq (rfl : dd = dd)).1 (by decide) (by decide) ?_
    show Steps _ _ _ (T3.setTop (mkF m 75 #[.val (.ref a1), .val (.ref a2)] [])) _
    refine XS.aloadN X3.here hx rfl (hb hby d16_75) rfl rfl ?_
    refine st4 _ ?_
    refine XS.ifnullNo X4.here hx rfl (hb hby d16_79) rfl ?_
    refine XS.aloadN X4.here hx rfl (hb hby d16_82) rfl rfl ?_
    show Steps _ _ _ (T4.setTop (mkF m 83 #[.val (.ref a1), .val (.ref a2)] [(.ref a2)])) _
    refine st5.trans ?_
    refine XS.aloadN X5.here hx rfl (hb hby d16_86) rfl rfl ?_
    refine st6 _ ?_
    refine st7.trans ?_
    show Steps _ _ _ (T7.setTop (mkF m 93 #[.val (.ref a1), .val (.ref a2)] [(.ref tx), (.ref th)])) _
    refine st8.trans ?_
    refine XS.ifNo X8.here hx rfl (hb hby d16_96) rfl ((if0 _ _).trans (teq (if_neg hq : (own_eq uh ux) = (0 : Int32))).2) ?_
    refine st9 _ ?_
    refine XS.dup X9.here hx rfl (hb hby d16_102) rfl rfl ?_
    show Steps _ _ _ (T9.setTop (mkF m 103 #[.val (.ref a1), .val (.ref a2)] [(.ref b9), (.ref b9)])) _
    refine st10.trans ?_
    refine st11 _ ?_
    refine st12.trans ?_
    refine XS.aloadN X12.here hx rfl (hb hby d16_111) rfl rfl ?_
    show Steps _ _ _ (T12.setTop (mkF m 112 #[.val (.ref a1), .val (.ref a2)] [(.ref a1), (.ref b9)])) _
    refine st13 _ ?_
    refine st14.trans ?_
    refine st15.trans ?_
    refine st16 _ ?_
    show Steps _ _ _ (T16.setTop (mkF m 123 #[.val (.ref a1), .val (.ref a2)] [(.ref sa16), (.ref b9)])) _
    refine st17.trans ?_
    refine st18.trans ?_
    show Steps _ _ _ (T18.setTop (mkF m 129 #[.val (.ref a1), .val (.ref a2)] [(.ref tt)])) _
    exact retOut X18 hx Bd.returns rfl (Or.inr (Or.inr (Or.inr (Or.inr ⟨rfl, rfl, rfl⟩)))) (hb hby d16_129) hr
  · show Qown_rsN Z a1 a2 dd wa tx th ux uh qp qo d1 d2 kd1 kd2 vo vt cs nb h0 n0 _ T18.heap _
    exact ⟨tt, rfl, N18, WW18.keep0⟩
  · exact own_IB (s := s.setVm T16.vm) IBs X18.warmed
def own_tn (Z : State) (h : Heap) (nb : Nat) (t : Addr) (u : Int32) : Prop := ∃ (b : Addr) (k : ClassId), Exa Z h t "java/lang/String" ∧ Fld Z h t "java/lang/String" "value" "[B" (.ref b) ∧ Fld Z h t "java/lang/String" "coder" "B" (.int (0 : Int32)) ∧ Arv Z h b k .byte (1 : Int32) [.int u] (.int (0 : Int32)) ∧ t < nb ∧ b < nb
theorem own_tn.txt {Z : State} {h : Heap} {nb : Nat} {t : Addr} {u : Int32} (S : own_tn Z h nb t u) : own_txt Z h t u := by obtain ⟨b, k, e, f1, f2, v, -, -⟩ := S; exact ⟨b, k, e, f1, f2, v⟩
theorem own_tn.W {Z : State} {h h' : Heap} {nb : Nat} {t : Addr} {u : Int32} (S : own_tn Z h nb t u) (W : own_W nb h h') : own_tn Z h' nb t u := by
  obtain ⟨b, k, e, f1, f2, v, q1, q2⟩ := S
  exact ⟨b, k, own_W.exa e q1 W, own_W.fld f1 q1 W, own_W.fld f2 q1 W, own_W.arv v q2 W, q1, q2⟩
theorem own_tn.of {Z : State} {h : Heap} {nb : Nat} {t : Addr} {u : Int32} (S : own_txt Z h t u) (q : h.size ≤ nb) : own_tn Z h nb t u := by
  obtain ⟨b, k, e, f1, f2, v⟩ := S
  exact ⟨b, k, e, f1, f2, v, Nat.lt_of_lt_of_le e.lt q, Nat.lt_of_lt_of_le v.lt q⟩
/-- a frame of the law's -/
def own_frm (Z : State) (h : Heap) (nb : Nat) (f : Addr) (ps ofs : Int64) (nm : Int32) (tx : Addr) (u : Int32) (dv : Value) : Prop := Exa Z h f "com/example/hemotide/hemotide/link/Frame" ∧ Fld Z h f "com/example/hemotide/hemotide/link/Frame" "position" "J" (.long ps) ∧ Fld Z h f "com/example/hemotide/hemotide/link/Frame" "offset" "J" (.long ofs) ∧ Fld Z h f "com/example/hemotide/hemotide/link/Frame" "number" "I" (.int nm) ∧ Fld Z h f "com/example/hemotide/hemotide/link/Frame" "text" "Ljava/lang/String;" (.ref tx) ∧ Fld Z h f "com/example/hemotide/hemotide/link/Frame" "defect" "Ljava/lang/String;" dv ∧ own_tn Z h nb tx u ∧ f < nb
theorem own_frm.W {Z : State} {h h' : Heap} {nb : Nat} {f : Addr} {ps ofs : Int64} {nm : Int32} {tx : Addr} {u : Int32} {dv : Value} (S : own_frm Z h nb f ps ofs nm tx u dv) (W : own_W nb h h') : own_frm Z h' nb f ps ofs nm tx u dv := by
  obtain ⟨e, f1, f2, f3, f4, f5, t, q⟩ := S
  exact ⟨own_W.exa e q W, own_W.fld f1 q W, own_W.fld f2 q W, own_W.fld f3 q W, own_W.fld f4 q W, own_W.fld f5 q W, t.W W, q⟩
def own_trf (Z : State) (h : Heap) (t : Addr) (aw rp : Value) (cc dd : Int32) : Prop := Exa Z h t "com/example/hemotide/hemotide/link/Transfer" ∧ Fld Z h t "com/example/hemotide/hemotide/link/Transfer" "awaited" "Lcom/example/hemotide/hemotide/link/Frame;" aw ∧ Fld Z h t "com/example/hemotide/hemotide/link/Transfer" "repeatable" "Lcom/example/hemotide/hemotide/link/Frame;" rp ∧ Fld Z h t "com/example/hemotide/hemotide/link/Transfer" "refusedInARow" "I" (.int cc) ∧ Fld Z h t "com/example/hemotide/hemotide/link/Transfer" "due" "I" (.int dd)
theorem own_awR {aw dv : Value} {x : Addr} (q : aw.isRef = true) : (own_aw aw dv x).isRef = true := by unfold own_aw; split <;> first | rfl | exact q
theorem own_awI {aw dv : Value} {x : Addr} : own_aw (own_aw aw dv x) dv x = own_aw aw dv x := by
  unfold own_aw
  by_cases q : aw = .null ∧ dv = .null <;> simp [q]
theorem own_lt {n a b : Int32} (q : n < a) (r : a ≤ b) : n < b := Int32.lt_of_lt_of_le q r
def own_End (p : Program) (e : Env) (below : List Frame) (s T : State) (g : JFrame) : Prop := ∃ s₂ o, Steps p.tables e below (T.setTop g) s₂ ∧ s₂.status = .running ∧ Ended s₂ below o ∧ ∃ L, o = .returned (some (.int (1 : Int32))) ∧ Fr s.heap.size L ∧ ReturnedEndW s o s₂ L room_1.cells room_1.slots
theorem own_End.by {p : Program} {e : Env} {below : List Frame} {s T T' : State} {g g' : JFrame} (E : own_End p e below s T' g') (k : ∀ t, Steps p.tables e below (T'.setTop g') t → Steps p.tables e below (T.setTop g) t) : own_End p e below s T g := by
  obtain ⟨a, b, q, r⟩ := E
  exact ⟨a, b, k _ q, r⟩
theorem pd__Lcom_example_hemotide_hemotide_link_Frame__Z : parseMethodDescriptor "(Lcom/example/hemotide/hemotide/link/Frame;)Z" = some ⟨[(.object "com/example/hemotide/hemotide/link/Frame")], some .boolean⟩ := by decide +kernel
theorem own_K5 {p : Program} {l : Launch} {e : Env} {s : State} {m : MethodId} {args : Array Value} {below : List Frame} {meth : Method} {c : Code} {s₁ : State} {SS : Spec} {Z : State} {a0 : Array Value} {TT : State} {vm : Vm} {LL : List Loc} {ks : Nat} {p1 : Int32} {p2 : Int32} {p3 : Int32} {p4 : Int32} {bT : Int32} {bF : Int32} {bG : Int32} {nn : Int32} {tF : Addr} {tG : Addr} {tH : Addr} {tA : Addr} {fa : Addr} {ff : Addr} {fg : Addr} {dd : Int32} {fh : Addr} {tt : Addr} {rr : Int32} {xv : Value} {aw : Value} {cc : Int32}
    (hw : ∀ d ∈ tables_1, d.before a0 Z = true)
    (Bd : BodyLoose p l x SS code maxLocals ret e s m args below meth c s₁)
    (hml : c.maxLocals = 22)
    (X0 : Stand p l e room_1 (s.setVm vm) m args below meth c TT LL 60 3000)
    (hS : s.Since vm ks)
    (hk0 : ks ≤ TT.heap.size)
    (hZ : Z.Warmed39 (s.setVm vm).vm)
    (hown : (s.setVm vm).vm.findClass "com/example/hemotide/hemotide/link/TransferRefusePinLaw" = some m.cls)
    (N0 : Fr s.heap.size LL)
    (Z0 : s.heap.size ≤ TT.heap.size)
    (Ht : own_trf Z TT.heap tt aw .null cc dd) : own_End p e below s TT (mkF m 517 #[.val (.int p1), .val (.int p2), .val (.int p3), .val (.int p4), .val (.int bT), .val (.int bF), .val (.int bG), .val (.int nn), .val (.ref tF), .val (.ref tG), .val (.ref tH), .val (.ref tA), .val (.ref fa), .val (.ref ff), .val (.ref fg), .val (.int dd), .val (.ref fh), .val (.ref tt), .val (.int (1 : Int32)), .val xv, .val (.int rr), .unset] [(.int rr)]) := by
  have hx := Bd.exec
  have hZa := hZ
  have howna := hown
  have hby : c.code = code := Bd.bytes
  have own_wS : ∀ d ∈ Bundle.stringAtoms, d.before a0 Z = true := own_wSof hw
  obtain ⟨n0, hn0⟩ : ∃ z, z = s.heap.size := ⟨_, rfl⟩
  rw [← hn0] at N0 Z0
  obtain ⟨EtT, FtA, FtR, FtC, FtD⟩ := id Ht
  obtain ⟨cq1, kq1, q1a, q1b, q1c⟩ := isOf hZ rfl EtT
  obtain ⟨_, _, ⟨T1, L1, k1, n1⟩, -, X1, ⟨Lc1, hQ1, l1, y1, z1⟩, st1⟩ := X0.virtualBack hx (y := mn12) (z := mn12) hown (mvT hZ (wJ hw 300 rfl)) (mvT hZ (wJ hw 301 rfl)) (notFace_of_selects (args := #[]) (mvT hZ (wJ hw 303 rfl))) (mvT hZ (wJ hw 303 rfl)) (mvT hZ (wJ hw 302 rfl)) (by decide) (backOf (W := 1) (own_repeats l Z a0 hw [] tt fa  TT.heap n0 Z0 FtR) hZ (wJ hw 304 rfl) (wJ hw 65 rfl) (by decide) (by decide)) q1a q1c (g := (mkF m 542 (lA26 p1 p2 p3 p4 bT bF bG nn tF tG tH tA fa ff fg dd fh tt xv rr) [(.ref fa), (.ref tt), (.int (1 : Int32))])) rfl (by rw [hml]; rfl) (Steps.refl _) (argsL := [(.ref fa)]) (rest := [(.int (1 : Int32))]) (lenOf pd__Lcom_example_hemotide_hemotide_link_Frame__Z rfl) rfl (by show 2 * 0 + _ ≤ _; exact Nat.le_of_eq rfl) (hb hby at_542) (fun _ _ => ⟨rfl, rfl, (by decide : 60 + 0 ≤ _), (by decide : 3000 + 0 ≤ _)⟩)
  dsimp only [Pt.U, Pt.locs, Pt.cells, Pt.slots] at X1 l1 y1 z1 st1 hQ1
  replace X1 := X1.more (Nat.le_of_eq (show k1 = 60 from y1)) (Nat.le_of_eq (show n1 = 3000 from z1))
  obtain ⟨rfl, Nq1, e1⟩ := hQ1
  have N1 : Fr n0 L1 := by rw [l1]; exact Fr.app N0 Nq1
  obtain ⟨fs, hr, hrun, hended, hend⟩ := X1.leaveW hS (by rw [e1]; exact hk0) (v := some (.int (1 : Int32))) (fun h => by rw [Bd.returns] at h; cases h)
  refine ⟨_, _, ?_, hrun, hended, _, rfl, hn0 ▸ N1, ⟨_, rfl⟩, hend.2.1, hend.2.2.1, hend.2.2.2.mono (by decide) (by decide)⟩
  refine XS.istore X0.here hx rfl (hb hby at_517) rfl (l' := (lA26 p1 p2 p3 p4 bT bF bG nn tF tG tH tA fa ff fg dd fh tt xv rr)) rfl ?_
  refine XS.iload X0.here hx rfl (hb hby at_519) rfl ?_
  refine XS.iload X0.here hx rfl (hb hby at_521) rfl ?_
  show Steps _ _ _ (TT.setTop (mkF m 523 (lA26 p1 p2 p3 p4 bT bF bG nn tF tG tH tA fa ff fg dd fh tt xv rr) [(.int rr), (.int (1 : Int32))])) _
  refine XS.iload X0.here hx rfl (hb hby at_523) rfl ?_
  refine XS.icmpNo X0.here hx rfl (hb hby at_525) rfl (teq (rfl : rr = rr)).2 ?_
  refine XS.iconst X0.here hx rfl (hb hby at_528) ?_
  refine XS.goto X0.here hx rfl (pc0 := 529) (pc' := 533) rfl (hb hby at_529) (by decide) (by decide) ?_
  show Steps _ _ _ (TT.setTop (mkF m 533 (lA26 p1 p2 p3 p4 bT bF bG nn tF tG tH tA fa ff fg dd fh tt xv rr) [(.int (1 : Int32)), (.int (1 : Int32))])) _
  refine XS.iand X0.here hx rfl (hb hby at_533) rfl ?_
  show Steps _ _ _ (TT.setTop (mkF m 534 (lA26 p1 p2 p3 p4 bT bF bG nn tF tG tH tA fa ff fg dd fh tt xv rr) [(.int ((1 : Int32) &&& (1 : Int32)))])) _
  rw [(by decide : ((1 : Int32) &&& (1 : Int32)) = (1 : Int32))]
  show Steps _ _ _ (TT.setTop (mkF m 534 (lA26 p1 p2 p3 p4 bT bF bG nn tF tG tH tA fa ff fg dd fh tt xv rr) [(.int (1 : Int32))])) _
  refine XS.istore X0.here hx rfl (hb hby at_534) rfl (l' := (lA26 p1 p2 p3 p4 bT bF bG nn tF tG tH tA fa ff fg dd fh tt xv rr)) rfl ?_
  refine XS.iload X0.here hx rfl (hb hby at_536) rfl ?_
  refine XS.aload X0.here hx rfl (hb hby at_538) rfl rfl ?_
  refine XS.aload X0.here hx rfl (hb hby at_540) rfl rfl ?_
  show Steps _ _ _ (TT.setTop (mkF m 542 (lA26 p1 p2 p3 p4 bT bF bG nn tF tG tH tA fa ff fg dd fh tt xv rr) [(.ref fa), (.ref tt), (.int (1 : Int32))])) _
  refine st1.trans ?_
  refine XS.ifNo X1.here hx rfl (hb hby at_545) rfl ((if0 _ _).trans (teq (rfl : (0 : Int32) = (0 : Int32))).2) ?_
  refine XS.iconst X1.here hx rfl (hb hby at_548) ?_
  refine XS.goto X1.here hx rfl (pc0 := 549) (pc' := 553) rfl (hb hby at_549) (by decide) (by decide) ?_
  show Steps _ _ _ (T1.setTop (mkF m 553 (lA26 p1 p2 p3 p4 bT bF bG nn tF tG tH tA fa ff fg dd fh tt xv rr) [(.int (1 : Int32)), (.int (1 : Int32))])) _
  refine XS.iand X1.here hx rfl (hb hby at_553) rfl ?_
  show Steps _ _ _ (T1.setTop (mkF m 554 (lA26 p1 p2 p3 p4 bT bF bG nn tF tG tH tA fa ff fg dd fh tt xv rr) [(.int ((1 : Int32) &&& (1 : Int32)))])) _
  rw [(by decide : ((1 : Int32) &&& (1 : Int32)) = (1 : Int32))]
  show Steps _ _ _ (T1.setTop (mkF m 554 (lA26 p1 p2 p3 p4 bT bF bG nn tF tG tH tA fa ff fg dd fh tt xv rr) [(.int (1 : Int32))])) _
  refine XS.istore X1.here hx rfl (hb hby at_554) rfl (l' := (lA26 p1 p2 p3 p4 bT bF bG nn tF tG tH tA fa ff fg dd fh tt xv rr)) rfl ?_
  refine XS.iload X1.here hx rfl (hb hby at_556) rfl ?_
  show Steps _ _ _ (T1.setTop (mkF m 558 (lA26 p1 p2 p3 p4 bT bF bG nn tF tG tH tA fa ff fg dd fh tt xv rr) [(.int (1 : Int32))])) _
  exact retN X1 hx (t := .boolean) Bd.returns (by simp) (hb hby at_558) hr
theorem pd__Lcom_example_hemotide_hemotide_link_Frame__Ljava_lang_String_ : parseMethodDescriptor "(Lcom/example/hemotide/hemotide/link/Frame;)Ljava/lang/String;" = some ⟨[(.object "com/example/hemotide/hemotide/link/Frame")], some (.object "java/lang/String")⟩ := by decide +kernel
theorem own_K4 {p : Program} {l : Launch} {e : Env} {s : State} {m : MethodId} {args : Array Value} {below : List Frame} {meth : Method} {c : Code} {s₁ : State} {SS : Spec} {Z : State} {a0 : Array Value} {TT : State} {vm : Vm} {LL : List Loc} {ks : Nat} {p1 : Int32} {p2 : Int32} {p3 : Int32} {p4 : Int32} {bT : Int32} {bF : Int32} {bG : Int32} {nn : Int32} {tF : Addr} {tG : Addr} {tH : Addr} {tA : Addr} {fa : Addr} {ff : Addr} {fg : Addr} {dd : Int32} {fh : Addr} {tt : Addr} {wa : Addr} {tx : Addr} {ux : Int32} {uH : Int32} {cc : Int32} {zn : Int32} {qp : Int64} {qo : Int64} {h0 : Heap} {nb : Nat} {cs : Int32} {d1 : Addr} {d2 : Addr} {kd1 : ClassId} {kd2 : ClassId} {vo : List Value} {vt : List Value}
    (hw : ∀ d ∈ tables_1, d.before a0 Z = true)
    (Bd : BodyLoose p l x SS code maxLocals ret e s m args below meth c s₁)
    (hml : c.maxLocals = 22)
    (X0 : Stand p l e room_1 (s.setVm vm) m args below meth c TT LL 30 1500)
    (hS : s.Since vm ks)
    (hk0 : ks ≤ TT.heap.size)
    (hZ : Z.Warmed39 (s.setVm vm).vm)
    (hown : (s.setVm vm).vm.findClass "com/example/hemotide/hemotide/link/TransferRefusePinLaw" = some m.cls)
    (N0 : Fr s.heap.size LL)
    (Z0 : s.heap.size ≤ TT.heap.size)
    (IBs : IB Z vm [own_T305])
    (hh : s.heap = h0)
    (hold : ∀ (b : Addr) (cl : Cell), Z.heap[b]? = some cl → h0[b]? = some cl)
    (HC : ∀ q ∈ consts_1, Jvm.Lit.constHeld Z q.1 q.2)
    (HCW : Jvm.Lit.compactW.before a0 Z = true)
    (W0 : own_W h0.size h0 TT.heap)
    (hnb : h0.size ≤ nb)
    (SC : own_S Z h0 h0.size "java/lang/String" "COMPACT_STRINGS" "Z" (.int cs))
    (hcs : ¬ (cs = (0 : Int32)))
    (SO : own_S Z h0 h0.size "java/lang/Integer" "DigitOnes" "[B" (.ref d1))
    (ST : own_S Z h0 h0.size "java/lang/Integer" "DigitTens" "[B" (.ref d2))
    (VO : Arv Z h0 d1 kd1 .byte (100 : Int32) vo (.int (0 : Int32)))
    (VT : Arv Z h0 d2 kd2 .byte (100 : Int32) vt (.int (0 : Int32)))
    (hd1 : d1 < h0.size)
    (hd2 : d2 < h0.size)
    (Ht : own_trf Z TT.heap tt (.ref wa) .null cc dd)
    (Fh : own_frm Z TT.heap nb fh (4 : Int64) (30 : Int64) dd tH uH .null)
    (hne : tH ≠ tx)
    (Fx : own_frm Z TT.heap nb wa qp qo zn tx ux .null)
    (hqp : qp = (2 : Int64) ∨ qp = (3 : Int64))
    (hqo : qo = (10 : Int64) ∨ qo = (20 : Int64)) : own_End p e below s TT (mkF m 480 (lA20 p1 p2 p3 p4 bT bF bG nn tF tG tH tA fa ff fg dd fh tt tx) []) := by
  have hx := Bd.exec
  have hZa := hZ
  have howna := hown
  have hby : c.code = code := Bd.bytes
  have own_wS : ∀ d ∈ Bundle.stringAtoms, d.before a0 Z = true := own_wSof hw
  obtain ⟨n0, hn0⟩ : ∃ z, z = s.heap.size := ⟨_, rfl⟩
  rw [← hn0] at N0 Z0
  obtain ⟨EtT, FtA, FtR, FtC, FtD⟩ := id Ht
  obtain ⟨Eh, Ph, Oh, Mh, Xh, Dh, Sh, lth⟩ := id Fh
  obtain ⟨Ex, Px, Ox, Mx, Xx, Dx, Sx, ltx⟩ := id Fx
  have SCw := own_S.W SC W0
  obtain ⟨cq1, kq1, q1a, q1b, q1c⟩ := isOf hZ rfl Sh.txt.exa
  obtain ⟨_, _, ⟨T1, L1, k1, n1⟩, -, X1, ⟨Lc1, hQ1, l1, y1, z1⟩, st1⟩ := X0.virtualBack hx (y := mn33) (z := mn33) hown (mvT hZ (wJ hw 117 rfl)) (mvT hZ (wJ hw 118 rfl)) (notFace_of_selects (args := #[]) (mvT hZ (wJ hw 120 rfl))) (mvT hZ (wJ hw 120 rfl)) (mvT hZ (wJ hw 119 rfl)) (by decide) (backOf (W := 0) (own_eqS l Z a0 hw [] tH tx uH ux cs h0.size TT.heap n0 Z0 Sh.txt Sx.txt hne SCw hcs) hZ (wJ hw 121 rfl) (wJ hw 2 rfl) (by decide) (by decide)) q1a q1c (g := (mkF m 489 (lA20 p1 p2 p3 p4 bT bF bG nn tF tG tH tA fa ff fg dd fh tt tx) [(.ref tx), (.ref tH)])) rfl (by rw [hml]; rfl) (Steps.refl _) (argsL := [(.ref tx)]) (rest := []) (lenOf pd__Ljava_lang_Object__Z rfl) rfl (by show 2 * 0 + _ ≤ _; exact Nat.le_of_eq rfl) (hb hby at_489) (fun _ _ => ⟨rfl, rfl, (by decide : 30 + 0 ≤ _), (by decide : 1500 + 0 ≤ _)⟩)
  dsimp only [Pt.U, Pt.locs, Pt.cells, Pt.slots] at X1 l1 y1 z1 st1 hQ1
  replace X1 := X1.more (Nat.le_of_eq (show k1 = 30 from y1)) (Nat.le_of_eq (show n1 = 1500 from z1))
  obtain ⟨rfl, Nq1, e1⟩ := hQ1
  have N1 : Fr n0 L1 := by rw [l1]; exact Fr.app N0 Nq1
  by_cases hq : uH = ux
  · obtain ⟨cq2, kq2, q2a, q2b, q2c⟩ := isOf hZ e1 EtT
    obtain ⟨_, _, ⟨T2, L2, k2, n2⟩, -, X2, ⟨Lc2, hQ2, l2, y2, z2⟩, st2⟩ := X1.virtualBack hx (y := mn10) (z := mn10) hown (mvT hZ (wJ hw 125 rfl)) (mvT hZ (wJ hw 126 rfl)) (notFace_of_selects (args := #[]) (mvT hZ (wJ hw 128 rfl))) (mvT hZ (wJ hw 128 rfl)) (mvT hZ (wJ hw 127 rfl)) (by decide) (backOf (W := 0) (own_rsE l Z a0 hw [] tt fh dd wa tx tH ux uH cs h0.size TT.heap n0 Z0 EtT Eh Dh Mh FtD FtA Ex Xx Xh Sx.txt Sh.txt hne hq SCw hcs) hZ (wJ hw 129 rfl) (wJ hw 65 rfl) (by decide) (by decide)) q2a q2c (g := (mkF m 506 (lA21 p1 p2 p3 p4 bT bF bG nn tF tG tH tA fa ff fg dd fh tt tx) [(.ref fh), (.ref tt)])) rfl (by rw [hml]; rfl) (Steps.refl _) (argsL := [(.ref fh)]) (rest := []) (lenOf pd__Lcom_example_hemotide_hemotide_link_Frame__Ljava_lang_String_ rfl) rfl (by show 2 * 0 + _ ≤ _; exact Nat.le_of_eq rfl) (hb hby at_506) (fun _ _ => ⟨rfl, e1, (by decide : 30 + 0 ≤ _), (by decide : 1500 + 0 ≤ _)⟩)
    dsimp only [Pt.U, Pt.locs, Pt.cells, Pt.slots] at X2 l2 y2 z2 st2 hQ2
    replace X2 := X2.more (Nat.le_of_eq (show k2 = 30 from y2)) (Nat.le_of_eq (show n2 = 1500 from z2))
    obtain ⟨rfl, Nq2, e2⟩ := hQ2
    have N2 : Fr n0 L2 := by rw [l2]; exact Fr.app N1 Nq2
    refine own_End.by (g' := (mkF m 517 (lA21 p1 p2 p3 p4 bT bF bG nn tF tG tH tA fa ff fg dd fh tt tx) [(.int (0 : Int32))])) (own_K5 hw Bd hml (X2.more (by decide : 30 ≤ 60) (by decide : 1500 ≤ 3000)) hS (by rw [e2]; exact hk0) hZ hown (hn0 ▸ N2) (hn0 ▸ (by rw [e2]; exact Z0))  (by rw [e2]; exact ⟨EtT, FtA, FtR, FtC, FtD⟩)) ?_
    intro tg kt
    show Steps _ _ _ (TT.setTop (mkF m 480 (lA20 p1 p2 p3 p4 bT bF bG nn tF tG tH tA fa ff fg dd fh tt tx) [])) _
    refine XS.aload X0.here hx rfl (hb hby at_480) rfl rfl ?_
    refine XS.ifnullNo X0.here hx rfl (hb hby at_482) rfl ?_
    refine XS.aload X0.here hx rfl (hb hby at_485) rfl rfl ?_
    refine XS.aload X0.here hx rfl (hb hby at_487) rfl rfl ?_
    show Steps _ _ _ (TT.setTop (mkF m 489 (lA20 p1 p2 p3 p4 bT bF bG nn tF tG tH tA fa ff fg dd fh tt tx) [(.ref tx), (.ref tH)])) _
    refine st1.trans ?_
    refine XS.ifYes X1.here hx rfl (pc0 := 492) (pc' := 499) rfl (hb hby at_492) rfl ((if0 _ _).trans (feq (by rw [show own_eq uH ux = 1 from if_pos hq]; decide : ¬ ((own_eq uH ux) = (0 : Int32)))).2) (by decide) (by decide) ?_
    refine XS.iconst X1.here hx rfl (hb hby at_499) ?_
    refine XS.istore X1.here hx rfl (hb hby at_500) rfl (l' := (lA21 p1 p2 p3 p4 bT bF bG nn tF tG tH tA fa ff fg dd fh tt tx)) rfl ?_
    show Steps _ _ _ (T1.setTop (mkF m 502 (lA21 p1 p2 p3 p4 bT bF bG nn tF tG tH tA fa ff fg dd fh tt tx) [])) _
    refine XS.aload X1.here hx rfl (hb hby at_502) rfl rfl ?_
    refine XS.aload X1.here hx rfl (hb hby at_504) rfl rfl ?_
    refine st2.trans ?_
    refine XS.ifnullYes X2.here hx rfl (pc0 := 509) (pc' := 516) rfl (hb hby at_509) rfl (by decide) (by decide) ?_
    show Steps _ _ _ (T2.setTop (mkF m 516 (lA21 p1 p2 p3 p4 bT bF bG nn tF tG tH tA fa ff fg dd fh tt tx) [])) _
    refine XS.iconst X2.here hx rfl (hb hby at_516) ?_
    show Steps _ _ _ (T2.setTop (mkF m 517 (lA21 p1 p2 p3 p4 bT bF bG nn tF tG tH tA fa ff fg dd fh tt tx) [(.int (0 : Int32))])) _
    exact kt
  · obtain ⟨cq3, kq3, q3a, q3b, q3c⟩ := isOf hZ e1 EtT
    obtain ⟨_, _, ⟨T3, L3, k3, n3⟩, -, X3, hS3, hgr3, ⟨Lc3, hQ3, IBs, l3, y3, z3⟩, st3⟩ := X1.virtualBackS hx (y := mn10) (z := mn10) hown (mvT hZ (wJ hw 125 rfl)) (mvT hZ (wJ hw 126 rfl)) (notFace_of_selects (args := #[]) (mvT hZ (wJ hw 128 rfl))) (mvT hZ (wJ hw 128 rfl)) (mvT hZ (wJ hw 127 rfl)) (by decide) (own_backS (W := 0) (own_rsN l Z a0 hw [] tt fh dd wa tx tH ux uH qp qo d1 d2 kd1 kd2 vo vt cs h0.size TT.heap TT.heap.size (Nat.le_refl _) rfl (fun b cl q => W0.keep0.2.1 b cl (hold b cl q) nin0) HC HCW W0.size hqp hqo EtT Eh Dh Mh FtD FtA Ex Xx Xh Sx.txt Sh.txt hne hq Px Ox (own_S.W SO W0) (own_S.W ST W0) (own_W.arv VO hd1 W0) (own_W.arv VT hd2 W0) hd1 hd2 SCw hcs) hZ IBs (wJ hw 129 rfl) (wJ hw 65 rfl) (by decide) (by decide)) q3a q3c (g := (mkF m 506 (lA22 p1 p2 p3 p4 bT bF bG nn tF tG tH tA fa ff fg dd fh tt tx) [(.ref fh), (.ref tt)])) rfl (by rw [hml]; rfl) (Steps.refl _) (argsL := [(.ref fh)]) (rest := []) (lenOf pd__Lcom_example_hemotide_hemotide_link_Frame__Ljava_lang_String_ rfl) rfl (by show 2 * 0 + _ ≤ _; exact Nat.le_of_eq rfl) (hb hby at_506) (fun _ _ => ⟨rfl, e1, (by decide : 30 + 21 ≤ _), (by decide : 1500 + 992 ≤ _)⟩)
    dsimp only [Pt.U, Pt.locs, Pt.cells, Pt.slots] at X3 hS3 hgr3 IBs l3 y3 z3 st3 hQ3
    obtain ⟨X3, hS, hZ, hown⟩ := rebS hS (show _ ≤ _ from hk0) X3 hS3 (e1 ▸ hgr3) hZ hown
    obtain ⟨ks, hks3⟩ : ∃ z, z = T3.heap.size := ⟨_, rfl⟩
    rw [← hks3] at hS
    have hk3 : ks ≤ T3.heap.size := Nat.le_of_eq hks3
    replace X3 := X3.more (Nat.le_of_eq (show k3 = 51 from y3)) (Nat.le_of_eq (show n3 = 2492 from z3))
    obtain ⟨rq, rfl, Nq3, Kq3⟩ := hQ3
    have Z3 : n0 ≤ T3.heap.size := Nat.le_trans Z0 Kq3.1
    have WW3 : own_W nb TT.heap T3.heap := own_W.keep (own_W.refl nb TT.heap) Kq3 all0
    have N3 : Fr n0 L3 := by rw [l3]; exact Fr.app N1 (own_Frm Z0 Nq3)
    have fc4 := (EtT.keep Kq3)
    have fc5 := (FtA.keep Kq3 nin0)
    have fc6 := (FtR.keep Kq3 nin0)
    have fc7 := (FtC.keep Kq3 nin0)
    have fc8 := (FtD.keep Kq3 nin0)
    refine own_End.by (g' := (mkF m 517 (lA22 p1 p2 p3 p4 bT bF bG nn tF tG tH tA fa ff fg dd fh tt tx) [(.int (1 : Int32))])) (own_K5 hw Bd hml (X3.more (by decide : 51 ≤ 60) (by decide : 2492 ≤ 3000)) hS hk3 hZ hown (hn0 ▸ N3) (hn0 ▸ Z3)  ⟨fc4, fc5, fc6, fc7, fc8⟩) ?_
    intro tg kt
    show Steps _ _ _ (TT.setTop (mkF m 480 (lA20 p1 p2 p3 p4 bT bF bG nn tF tG tH tA fa ff fg dd fh tt tx) [])) _
    refine XS.aload X0.here hx rfl (hb hby at_480) rfl rfl ?_
    refine XS.ifnullNo X0.here hx rfl (hb hby at_482) rfl ?_
    refine XS.aload X0.here hx rfl (hb hby at_485) rfl rfl ?_
    refine XS.aload X0.here hx rfl (hb hby at_487) rfl rfl ?_
    show Steps _ _ _ (TT.setTop (mkF m 489 (lA20 p1 p2 p3 p4 bT bF bG nn tF tG tH tA fa ff fg dd fh tt tx) [(.ref tx), (.ref tH)])) _
    refine st1.trans ?_
    refine XS.ifNo X1.here hx rfl (hb hby at_492) rfl ((if0 _ _).trans (teq (if_neg hq : (own_eq uH ux) = (0 : Int32))).2) ?_
    refine XS.iconst X1.here hx rfl (hb hby at_495) ?_
    refine XS.goto X1.here hx rfl (pc0 := 496) (pc' := 500) rfl (hb hby at_496) (by decide) (by decide) ?_
    show Steps _ _ _ (T1.setTop (mkF m 500 (lA20 p1 p2 p3 p4 bT bF bG nn tF tG tH tA fa ff fg dd fh tt tx) [(.int (1 : Int32))])) _
    refine XS.istore X1.here hx rfl (hb hby at_500) rfl (l' := (lA22 p1 p2 p3 p4 bT bF bG nn tF tG tH tA fa ff fg dd fh tt tx)) rfl ?_
    refine XS.aload X1.here hx rfl (hb hby at_502) rfl rfl ?_
    refine XS.aload X1.here hx rfl (hb hby at_504) rfl rfl ?_
    refine st3.trans ?_
    show Steps _ _ _ (T3.setTop (mkF m 509 (lA22 p1 p2 p3 p4 bT bF bG nn tF tG tH tA fa ff fg dd fh tt tx) [(.ref rq)])) _
    refine XS.ifnullNo X3.here hx rfl (hb hby at_509) rfl ?_
    refine XS.iconst X3.here hx rfl (hb hby at_512) ?_
    refine XS.goto X3.here hx rfl (pc0 := 513) (pc' := 517) rfl (hb hby at_513) (by decide) (by decide) ?_
    show Steps _ _ _ (T3.setTop (mkF m 517 (lA22 p1 p2 p3 p4 bT bF bG nn tF tG tH tA fa ff fg dd fh tt tx) [(.int (1 : Int32))])) _
    exact kt
theorem own_K4c {p : Program} {l : Launch} {e : Env} {s : State} {m : MethodId} {args : Array Value} {below : List Frame} {meth : Method} {c : Code} {s₁ : State} {SS : Spec} {Z : State} {a0 : Array Value} {TT : State} {vm : Vm} {LL : List Loc} {ks : Nat} {p1 : Int32} {p2 : Int32} {p3 : Int32} {p4 : Int32} {bT : Int32} {bF : Int32} {bG : Int32} {nn : Int32} {tF : Addr} {tG : Addr} {tH : Addr} {tA : Addr} {fa : Addr} {ff : Addr} {fg : Addr} {dd : Int32} {fh : Addr} {tt : Addr} {uH : Int32} {cc : Int32} {nb : Nat}
    (hw : ∀ d ∈ tables_1, d.before a0 Z = true)
    (Bd : BodyLoose p l x SS code maxLocals ret e s m args below meth c s₁)
    (hml : c.maxLocals = 22)
    (X0 : Stand p l e room_1 (s.setVm vm) m args below meth c TT LL 30 1500)
    (hS : s.Since vm ks)
    (hk0 : ks ≤ TT.heap.size)
    (hZ : Z.Warmed39 (s.setVm vm).vm)
    (hown : (s.setVm vm).vm.findClass "com/example/hemotide/hemotide/link/TransferRefusePinLaw" = some m.cls)
    (N0 : Fr s.heap.size LL)
    (Z0 : s.heap.size ≤ TT.heap.size)
    (Ht : own_trf Z TT.heap tt .null .null cc dd)
    (Fh : own_frm Z TT.heap nb fh (4 : Int64) (30 : Int64) dd tH uH .null) : own_End p e below s TT (mkF m 480 (lA23 p1 p2 p3 p4 bT bF bG nn tF tG tH tA fa ff fg dd fh tt) []) := by
  have hx := Bd.exec
  have hZa := hZ
  have howna := hown
  have hby : c.code = code := Bd.bytes
  have own_wS : ∀ d ∈ Bundle.stringAtoms, d.before a0 Z = true := own_wSof hw
  obtain ⟨n0, hn0⟩ : ∃ z, z = s.heap.size := ⟨_, rfl⟩
  rw [← hn0] at N0 Z0
  obtain ⟨EtT, FtA, FtR, FtC, FtD⟩ := id Ht
  obtain ⟨Eh, Ph, Oh, Mh, Xh, Dh, Sh, lth⟩ := id Fh
  obtain ⟨cq1, kq1, q1a, q1b, q1c⟩ := isOf hZ rfl EtT
  obtain ⟨_, _, ⟨T1, L1, k1, n1⟩, -, X1, ⟨Lc1, hQ1, l1, y1, z1⟩, st1⟩ := X0.virtualBack hx (y := mn10) (z := mn10) hown (mvT hZ (wJ hw 125 rfl)) (mvT hZ (wJ hw 126 rfl)) (notFace_of_selects (args := #[]) (mvT hZ (wJ hw 128 rfl))) (mvT hZ (wJ hw 128 rfl)) (mvT hZ (wJ hw 127 rfl)) (by decide) (backOf (W := 0) (own_rs0 l Z a0 hw [] tt fh dd  TT.heap n0 Z0 EtT Eh Dh Mh FtD FtA) hZ (wJ hw 129 rfl) (wJ hw 65 rfl) (by decide) (by decide)) q1a q1c (g := (mkF m 506 (lA24 p1 p2 p3 p4 bT bF bG nn tF tG tH tA fa ff fg dd fh tt) [(.ref fh), (.ref tt)])) rfl (by rw [hml]; rfl) (Steps.refl _) (argsL := [(.ref fh)]) (rest := []) (lenOf pd__Lcom_example_hemotide_hemotide_link_Frame__Ljava_lang_String_ rfl) rfl (by show 2 * 0 + _ ≤ _; exact Nat.le_of_eq rfl) (hb hby at_506) (fun _ _ => ⟨rfl, rfl, (by decide : 30 + 0 ≤ _), (by decide : 1500 + 0 ≤ _)⟩)
  dsimp only [Pt.U, Pt.locs, Pt.cells, Pt.slots] at X1 l1 y1 z1 st1 hQ1
  replace X1 := X1.more (Nat.le_of_eq (show k1 = 30 from y1)) (Nat.le_of_eq (show n1 = 1500 from z1))
  obtain ⟨rfl, Nq1, e1⟩ := hQ1
  have N1 : Fr n0 L1 := by rw [l1]; exact Fr.app N0 Nq1
  refine own_End.by (g' := (mkF m 517 (lA24 p1 p2 p3 p4 bT bF bG nn tF tG tH tA fa ff fg dd fh tt) [(.int (0 : Int32))])) (own_K5 hw Bd hml (X1.more (by decide : 30 ≤ 60) (by decide : 1500 ≤ 3000)) hS (by rw [e1]; exact hk0) hZ hown (hn0 ▸ N1) (hn0 ▸ (by rw [e1]; exact Z0))  (by rw [e1]; exact ⟨EtT, FtA, FtR, FtC, FtD⟩)) ?_
  intro tg kt
  show Steps _ _ _ (TT.setTop (mkF m 480 (lA23 p1 p2 p3 p4 bT bF bG nn tF tG tH tA fa ff fg dd fh tt) [])) _
  refine XS.aload X0.here hx rfl (hb hby at_480) rfl rfl ?_
  refine XS.ifnullYes X0.here hx rfl (pc0 := 482) (pc' := 499) rfl (hb hby at_482) rfl (by decide) (by decide) ?_
  refine XS.iconst X0.here hx rfl (hb hby at_499) ?_
  refine XS.istore X0.here hx rfl (hb hby at_500) rfl (l' := (lA24 p1 p2 p3 p4 bT bF bG nn tF tG tH tA fa ff fg dd fh tt)) rfl ?_
  show Steps _ _ _ (TT.setTop (mkF m 502 (lA24 p1 p2 p3 p4 bT bF bG nn tF tG tH tA fa ff fg dd fh tt) [])) _
  refine XS.aload X0.here hx rfl (hb hby at_502) rfl rfl ?_
  refine XS.aload X0.here hx rfl (hb hby at_504) rfl rfl ?_
  refine st1.trans ?_
  refine XS.ifnullYes X1.here hx rfl (pc0 := 509) (pc' := 516) rfl (hb hby at_509) rfl (by decide) (by decide) ?_
  show Steps _ _ _ (T1.setTop (mkF m 516 (lA24 p1 p2 p3 p4 bT bF bG nn tF tG tH tA fa ff fg dd fh tt) [])) _
  refine XS.iconst X1.here hx rfl (hb hby at_516) ?_
  show Steps _ _ _ (T1.setTop (mkF m 517 (lA24 p1 p2 p3 p4 bT bF bG nn tF tG tH tA fa ff fg dd fh tt) [(.int (0 : Int32))])) _
  exact kt
theorem own_K3 {p : Program} {l : Launch} {e : Env} {s : State} {m : MethodId} {args : Array Value} {below : List Frame} {meth : Method} {c : Code} {s₁ : State} {SS : Spec} {Z : State} {a0 : Array Value} {TT : State} {vm : Vm} {LL : List Loc} {ks : Nat} {p1 : Int32} {p2 : Int32} {p3 : Int32} {p4 : Int32} {bT : Int32} {bF : Int32} {bG : Int32} {nn : Int32} {tF : Addr} {tG : Addr} {tH : Addr} {tA : Addr} {fa : Addr} {ff : Addr} {fg : Addr} {dd : Int32} {fh : Addr} {tt : Addr} {uF : Int32} {uG : Int32} {uH : Int32} {dF : Value} {dG : Value} {cc : Int32} {h0 : Heap} {nb : Nat} {cs : Int32} {d1 : Addr} {d2 : Addr} {kd1 : ClassId} {kd2 : ClassId} {vo : List Value} {vt : List Value} {aw : Value}
    (hw : ∀ d ∈ tables_1, d.before a0 Z = true)
    (Bd : BodyLoose p l x SS code maxLocals ret e s m args below meth c s₁)
    (hml : c.maxLocals = 22)
    (X0 : Stand p l e room_1 (s.setVm vm) m args below meth c TT LL 30 1500)
    (hS : s.Since vm ks)
    (hk0 : ks ≤ TT.heap.size)
    (hZ : Z.Warmed39 (s.setVm vm).vm)
    (hown : (s.setVm vm).vm.findClass "com/example/hemotide/hemotide/link/TransferRefusePinLaw" = some m.cls)
    (N0 : Fr s.heap.size LL)
    (Z0 : s.heap.size ≤ TT.heap.size)
    (IBs : IB Z vm [own_T305])
    (hh : s.heap = h0)
    (hold : ∀ (b : Addr) (cl : Cell), Z.heap[b]? = some cl → h0[b]? = some cl)
    (HC : ∀ q ∈ consts_1, Jvm.Lit.constHeld Z q.1 q.2)
    (HCW : Jvm.Lit.compactW.before a0 Z = true)
    (W0 : own_W h0.size h0 TT.heap)
    (hnb : h0.size ≤ nb)
    (SC : own_S Z h0 h0.size "java/lang/String" "COMPACT_STRINGS" "Z" (.int cs))
    (hcs : ¬ (cs = (0 : Int32)))
    (SO : own_S Z h0 h0.size "java/lang/Integer" "DigitOnes" "[B" (.ref d1))
    (ST : own_S Z h0 h0.size "java/lang/Integer" "DigitTens" "[B" (.ref d2))
    (VO : Arv Z h0 d1 kd1 .byte (100 : Int32) vo (.int (0 : Int32)))
    (VT : Arv Z h0 d2 kd2 .byte (100 : Int32) vt (.int (0 : Int32)))
    (hd1 : d1 < h0.size)
    (hd2 : d2 < h0.size)
    (Ht : own_trf Z TT.heap tt aw .null cc dd)
    (Fh : own_frm Z TT.heap nb fh (4 : Int64) (30 : Int64) dd tH uH .null)
    (Ff : own_frm Z TT.heap nb ff (2 : Int64) (10 : Int64) p2 tF uF dF)
    (Fg : own_frm Z TT.heap nb fg (3 : Int64) (20 : Int64) p3 tG uG dG)
    (hFd : (bF = (0 : Int32) ∧ dF = .null) ∨ (¬ bF = (0 : Int32) ∧ ∃ ba : Addr, dF = .ref ba))
    (hGd : (bG = (0 : Int32) ∧ dG = .null) ∨ (¬ bG = (0 : Int32) ∧ ∃ ba : Addr, dG = .ref ba))
    (hne1 : tH ≠ tF)
    (hne2 : tH ≠ tG)
    (hAw : (nn < (2 : Int32) ∧ aw = (own_aw .null dF ff)) ∨ (¬ nn < (2 : Int32) ∧ aw = (own_aw (own_aw .null dF ff) dG fg))) : own_End p e below s TT (mkF m 450 (lA17 p1 p2 p3 p4 bT bF bG nn tF tG tH tA fa ff fg dd fh tt) []) := by
  have hx := Bd.exec
  have hZa := hZ
  have howna := hown
  have hby : c.code = code := Bd.bytes
  have own_wS : ∀ d ∈ Bundle.stringAtoms, d.before a0 Z = true := own_wSof hw
  obtain ⟨n0, hn0⟩ : ∃ z, z = s.heap.size := ⟨_, rfl⟩
  rw [← hn0] at N0 Z0
  rcases hFd with ⟨hb5, hd5⟩ | ⟨hb5, ba, hd5⟩
  · have ea : aw = .ref ff := by rw [hd5] at hAw; rcases hAw with ⟨-, q⟩ | ⟨-, q⟩ <;> simpa [own_aw] using q
    rw [ea] at Ht
    rw [hd5] at Ff
    refine own_End.by (g' := (mkF m 480 (lA18 p1 p2 p3 p4 bT bF bG nn tF tG tH tA fa ff fg dd fh tt) [])) (own_K4 hw Bd hml (X0.more (by decide : 30 ≤ 30) (by decide : 1500 ≤ 1500)) hS hk0 hZ hown (hn0 ▸ N0) (hn0 ▸ Z0) IBs hh hold HC HCW (own_W.trans W0 (own_W.mono hnb (own_W.refl nb TT.heap))) hnb SC hcs SO ST VO VT hd1 hd2 Ht Fh hne1 Ff (Or.inl rfl) (Or.inl rfl)) ?_
    intro tg kt
    show Steps _ _ _ (TT.setTop (mkF m 450 (lA17 p1 p2 p3 p4 bT bF bG nn tF tG tH tA fa ff fg dd fh tt) [])) _
    refine XS.aconstNull X0.here hx rfl (hb hby at_450) ?_
    refine XS.astore X0.here hx rfl (hb hby at_451) rfl rfl (l' := (lA23 p1 p2 p3 p4 bT bF bG nn tF tG tH tA fa ff fg dd fh tt)) rfl ?_
    refine XS.iload X0.here hx rfl (hb hby at_453) rfl ?_
    refine XS.ifNo X0.here hx rfl (hb hby at_455) rfl ((if0 _ _).trans (teq (hb5 : bF = (0 : Int32))).2) ?_
    show Steps _ _ _ (TT.setTop (mkF m 458 (lA23 p1 p2 p3 p4 bT bF bG nn tF tG tH tA fa ff fg dd fh tt) [])) _
    refine XS.aload X0.here hx rfl (hb hby at_458) rfl rfl ?_
    refine XS.astore X0.here hx rfl (hb hby at_460) rfl rfl (l' := (lA18 p1 p2 p3 p4 bT bF bG nn tF tG tH tA fa ff fg dd fh tt)) rfl ?_
    refine XS.goto X0.here hx rfl (pc0 := 462) (pc' := 480) rfl (hb hby at_462) (by decide) (by decide) ?_
    show Steps _ _ _ (TT.setTop (mkF m 480 (lA18 p1 p2 p3 p4 bT bF bG nn tF tG tH tA fa ff fg dd fh tt) [])) _
    exact kt
  · by_cases hn2 : nn < (2 : Int32)
    · have ea : aw = .null := by rw [hd5] at hAw; rcases hAw with ⟨qn, q⟩ | ⟨qn, q⟩ <;> first | exact absurd hn2 qn | simpa [own_aw] using q
      rw [ea] at Ht
      refine own_End.by (g' := (mkF m 480 (lA23 p1 p2 p3 p4 bT bF bG nn tF tG tH tA fa ff fg dd fh tt) [])) (own_K4c hw Bd hml (X0.more (by decide : 30 ≤ 30) (by decide : 1500 ≤ 1500)) hS hk0 hZ hown (hn0 ▸ N0) (hn0 ▸ Z0)  Ht Fh) ?_
      intro tg kt
      show Steps _ _ _ (TT.setTop (mkF m 450 (lA17 p1 p2 p3 p4 bT bF bG nn tF tG tH tA fa ff fg dd fh tt) [])) _
      refine XS.aconstNull X0.here hx rfl (hb hby at_450) ?_
      refine XS.astore X0.here hx rfl (hb hby at_451) rfl rfl (l' := (lA23 p1 p2 p3 p4 bT bF bG nn tF tG tH tA fa ff fg dd fh tt)) rfl ?_
      refine XS.iload X0.here hx rfl (hb hby at_453) rfl ?_
      refine XS.ifYes X0.here hx rfl (pc0 := 455) (pc' := 465) rfl (hb hby at_455) rfl ((if0 _ _).trans (feq (hb5 : ¬ (bF = (0 : Int32)))).2) (by decide) (by decide) ?_
      show Steps _ _ _ (TT.setTop (mkF m 465 (lA23 p1 p2 p3 p4 bT bF bG nn tF tG tH tA fa ff fg dd fh tt) [])) _
      refine XS.iload X0.here hx rfl (hb hby at_465) rfl ?_
      refine XS.iconst X0.here hx rfl (hb hby at_467) ?_
      refine XS.icmpYes X0.here hx rfl (pc0 := 468) (pc' := 480) rfl (hb hby at_468) rfl (tlt (hn2 : nn < (2 : Int32))).1 (by decide) (by decide) ?_
      show Steps _ _ _ (TT.setTop (mkF m 480 (lA23 p1 p2 p3 p4 bT bF bG nn tF tG tH tA fa ff fg dd fh tt) [])) _
      exact kt
    · rcases hGd with ⟨hb6, hd6⟩ | ⟨hb6, bb, hd6⟩
      · have ea : aw = .ref fg := by rw [hd5, hd6] at hAw; rcases hAw with ⟨qn, q⟩ | ⟨-, q⟩ <;> first | exact absurd qn hn2 | simpa [own_aw] using q
        rw [ea] at Ht
        rw [hd6] at Fg
        refine own_End.by (g' := (mkF m 480 (lA19 p1 p2 p3 p4 bT bF bG nn tF tG tH tA fa ff fg dd fh tt) [])) (own_K4 hw Bd hml (X0.more (by decide : 30 ≤ 30) (by decide : 1500 ≤ 1500)) hS hk0 hZ hown (hn0 ▸ N0) (hn0 ▸ Z0) IBs hh hold HC HCW (own_W.trans W0 (own_W.mono hnb (own_W.refl nb TT.heap))) hnb SC hcs SO ST VO VT hd1 hd2 Ht Fh hne2 Fg (Or.inr rfl) (Or.inr rfl)) ?_
        intro tg kt
        show Steps _ _ _ (TT.setTop (mkF m 450 (lA17 p1 p2 p3 p4 bT bF bG nn tF tG tH tA fa ff fg dd fh tt) [])) _
        refine XS.aconstNull X0.here hx rfl (hb hby at_450) ?_
        refine XS.astore X0.here hx rfl (hb hby at_451) rfl rfl (l' := (lA23 p1 p2 p3 p4 bT bF bG nn tF tG tH tA fa ff fg dd fh tt)) rfl ?_
        refine XS.iload X0.here hx rfl (hb hby at_453) rfl ?_
        refine XS.ifYes X0.here hx rfl (pc0 := 455) (pc' := 465) rfl (hb hby at_455) rfl ((if0 _ _).trans (feq (hb5 : ¬ (bF = (0 : Int32)))).2) (by decide) (by decide) ?_
        show Steps _ _ _ (TT.setTop (mkF m 465 (lA23 p1 p2 p3 p4 bT bF bG nn tF tG tH tA fa ff fg dd fh tt) [])) _
        refine XS.iload X0.here hx rfl (hb hby at_465) rfl ?_
        refine XS.iconst X0.here hx rfl (hb hby at_467) ?_
        refine XS.icmpNo X0.here hx rfl (hb hby at_468) rfl (flt (hn2 : ¬ (nn < (2 : Int32)))).1 ?_
        refine XS.iload X0.here hx rfl (hb hby at_471) rfl ?_
        show Steps _ _ _ (TT.setTop (mkF m 473 (lA23 p1 p2 p3 p4 bT bF bG nn tF tG tH tA fa ff fg dd fh tt) [(.int bG)])) _
        refine XS.ifNo X0.here hx rfl (hb hby at_473) rfl ((if0 _ _).trans (teq (hb6 : bG = (0 : Int32))).2) ?_
        refine XS.aload X0.here hx rfl (hb hby at_476) rfl rfl ?_
        refine XS.astore X0.here hx rfl (hb hby at_478) rfl rfl (l' := (lA19 p1 p2 p3 p4 bT bF bG nn tF tG tH tA fa ff fg dd fh tt)) rfl ?_
        show Steps _ _ _ (TT.setTop (mkF m 480 (lA19 p1 p2 p3 p4 bT bF bG nn tF tG tH tA fa ff fg dd fh tt) [])) _
        exact kt
      · have ea : aw = .null := by rw [hd5, hd6] at hAw; rcases hAw with ⟨qn, q⟩ | ⟨qn, q⟩ <;> first | exact absurd trivial qn | simpa [own_aw] using q
        rw [ea] at Ht
        refine own_End.by (g' := (mkF m 480 (lA23 p1 p2 p3 p4 bT bF bG nn tF tG tH tA fa ff fg dd fh tt) [])) (own_K4c hw Bd hml (X0.more (by decide : 30 ≤ 30) (by decide : 1500 ≤ 1500)) hS hk0 hZ hown (hn0 ▸ N0) (hn0 ▸ Z0)  Ht Fh) ?_
        intro tg kt
        show Steps _ _ _ (TT.setTop (mkF m 450 (lA17 p1 p2 p3 p4 bT bF bG nn tF tG tH tA fa ff fg dd fh tt) [])) _
        refine XS.aconstNull X0.here hx rfl (hb hby at_450) ?_
        refine XS.astore X0.here hx rfl (hb hby at_451) rfl rfl (l' := (lA23 p1 p2 p3 p4 bT bF bG nn tF tG tH tA fa ff fg dd fh tt)) rfl ?_
        refine XS.iload X0.here hx rfl (hb hby at_453) rfl ?_
        refine XS.ifYes X0.here hx rfl (pc0 := 455) (pc' := 465) rfl (hb hby at_455) rfl ((if0 _ _).trans (feq (hb5 : ¬ (bF = (0 : Int32)))).2) (by decide) (by decide) ?_
        show Steps _ _ _ (TT.setTop (mkF m 465 (lA23 p1 p2 p3 p4 bT bF bG nn tF tG tH tA fa ff fg dd fh tt) [])) _
        refine XS.iload X0.here hx rfl (hb hby at_465) rfl ?_
        refine XS.iconst X0.here hx rfl (hb hby at_467) ?_
        refine XS.icmpNo X0.here hx rfl (hb hby at_468) rfl (flt (hn2 : ¬ (nn < (2 : Int32)))).1 ?_
        refine XS.iload X0.here hx rfl (hb hby at_471) rfl ?_
        show Steps _ _ _ (TT.setTop (mkF m 473 (lA23 p1 p2 p3 p4 bT bF bG nn tF tG tH tA fa ff fg dd fh tt) [(.int bG)])) _
        refine XS.ifYes X0.here hx rfl (pc0 := 473) (pc' := 480) rfl (hb hby at_473) rfl ((if0 _ _).trans (feq (hb6 : ¬ (bG = (0 : Int32)))).2) (by decide) (by decide) ?_
        show Steps _ _ _ (TT.setTop (mkF m 480 (lA23 p1 p2 p3 p4 bT bF bG nn tF tG tH tA fa ff fg dd fh tt) [])) _
        exact kt
theorem own_K2_7 {p : Program} {l : Launch} {e : Env} {s : State} {m : MethodId} {args : Array Value} {below : List Frame} {meth : Method} {c : Code} {s₁ : State} {SS : Spec} {Z : State} {a0 : Array Value} {TT : State} {vm : Vm} {LL : List Loc} {ks : Nat} {p1 : Int32} {p2 : Int32} {p3 : Int32} {p4 : Int32} {bT : Int32} {bF : Int32} {bG : Int32} {nn : Int32} {tF : Addr} {tG : Addr} {tH : Addr} {tA : Addr} {fa : Addr} {ff : Addr} {fg : Addr} {dd : Int32} {fh : Addr} {tt : Addr} {uF : Int32} {uG : Int32} {uH : Int32} {dF : Value} {dG : Value} {h0 : Heap} {nb : Nat} {cs : Int32} {d1 : Addr} {d2 : Addr} {kd1 : ClassId} {kd2 : ClassId} {vo : List Value} {vt : List Value}
    (hw : ∀ d ∈ tables_1, d.before a0 Z = true)
    (Bd : BodyLoose p l x SS code maxLocals ret e s m args below meth c s₁)
    (hml : c.maxLocals = 22)
    (X0 : Stand p l e room_1 (s.setVm vm) m args below meth c TT LL 30 1500)
    (hS : s.Since vm ks)
    (hk0 : ks ≤ TT.heap.size)
    (hZ : Z.Warmed39 (s.setVm vm).vm)
    (hown : (s.setVm vm).vm.findClass "com/example/hemotide/hemotide/link/TransferRefusePinLaw" = some m.cls)
    (N0 : Fr s.heap.size LL)
    (Z0 : s.heap.size ≤ TT.heap.size)
    (IBs : IB Z vm [own_T305])
    (hh : s.heap = h0)
    (hold : ∀ (b : Addr) (cl : Cell), Z.heap[b]? = some cl → h0[b]? = some cl)
    (HC : ∀ q ∈ consts_1, Jvm.Lit.constHeld Z q.1 q.2)
    (HCW : Jvm.Lit.compactW.before a0 Z = true)
    (W0 : own_W h0.size h0 TT.heap)
    (hnb : h0.size ≤ nb)
    (SC : own_S Z h0 h0.size "java/lang/String" "COMPACT_STRINGS" "Z" (.int cs))
    (hcs : ¬ (cs = (0 : Int32)))
    (SO : own_S Z h0 h0.size "java/lang/Integer" "DigitOnes" "[B" (.ref d1))
    (ST : own_S Z h0 h0.size "java/lang/Integer" "DigitTens" "[B" (.ref d2))
    (VO : Arv Z h0 d1 kd1 .byte (100 : Int32) vo (.int (0 : Int32)))
    (VT : Arv Z h0 d2 kd2 .byte (100 : Int32) vt (.int (0 : Int32)))
    (hd1 : d1 < h0.size)
    (hd2 : d2 < h0.size)
    (Ht : own_trf Z TT.heap tt (own_aw (own_aw .null dF ff) dG fg) .null (6 : Int32) dd)
    (Fh : own_frm Z TT.heap nb fh (4 : Int64) (30 : Int64) dd tH uH .null)
    (Ff : own_frm Z TT.heap nb ff (2 : Int64) (10 : Int64) p2 tF uF dF)
    (Fg : own_frm Z TT.heap nb fg (3 : Int64) (20 : Int64) p3 tG uG dG)
    (hFd : (bF = (0 : Int32) ∧ dF = .null) ∨ (¬ bF = (0 : Int32) ∧ ∃ ba : Addr, dF = .ref ba))
    (hGd : (bG = (0 : Int32) ∧ dG = .null) ∨ (¬ bG = (0 : Int32) ∧ ∃ ba : Addr, dG = .ref ba))
    (hne1 : tH ≠ tF)
    (hne2 : tH ≠ tG)
    (w_tt : nb ≤ tt)
    (hn2 : ¬ nn < (2 : Int32)) : own_End p e below s TT (mkF m 431 (lA17 p1 p2 p3 p4 bT bF bG nn tF tG tH tA fa ff fg dd fh tt) []) := by
  have hx := Bd.exec
  have hZa := hZ
  have howna := hown
  have hby : c.code = code := Bd.bytes
  have own_wS : ∀ d ∈ Bundle.stringAtoms, d.before a0 Z = true := own_wSof hw
  obtain ⟨n0, hn0⟩ : ∃ z, z = s.heap.size := ⟨_, rfl⟩
  rw [← hn0] at N0 Z0
  obtain ⟨EtT, FtA, FtR, FtC, FtD⟩ := id Ht
  have g_tt : n0 ≤ tt := Nat.le_trans (Nat.le_of_eq (by rw [hn0, hh])) (Nat.le_trans hnb w_tt)
  obtain ⟨Eg, Pg, Og, Mg, Xg, Dg, Sg, ltg⟩ := id Fg
  have hdG : dG.isRef = true := by rcases hGd with ⟨-, q⟩ | ⟨-, _, q⟩ <;> rw [q] <;> rfl
  by_cases hnj : nn < (7 : Int32)
  · refine own_End.by (g' := (mkF m 450 (lA17 p1 p2 p3 p4 bT bF bG nn tF tG tH tA fa ff fg dd fh tt) [])) (own_K3 hw Bd hml (X0.more (by decide : 30 ≤ 30) (by decide : 1500 ≤ 1500)) hS hk0 hZ hown (hn0 ▸ N0) (hn0 ▸ Z0) IBs hh hold HC HCW (own_W.trans W0 (own_W.mono hnb (own_W.refl nb TT.heap))) hnb SC hcs SO ST VO VT hd1 hd2 Ht (Fh.W (own_W.refl nb TT.heap)) (Ff.W (own_W.refl nb TT.heap)) (Fg.W (own_W.refl nb TT.heap)) hFd hGd hne1 hne2 (Or.inr ⟨hn2, rfl⟩)) ?_
    intro tg kt
    show Steps _ _ _ (TT.setTop (mkF m 431 (lA17 p1 p2 p3 p4 bT bF bG nn tF tG tH tA fa ff fg dd fh tt) [])) _
    refine XS.iload X0.here hx rfl (hb hby at_431) rfl ?_
    refine XS.bipush X0.here hx rfl (hb hby at_433) ?_
    refine XS.icmpYes X0.here hx rfl (pc0 := 435) (pc' := 450) rfl (hb hby at_435) rfl (tlt (hnj : nn < (7 : Int32))).1 (by decide) (by decide) ?_
    show Steps _ _ _ (TT.setTop (mkF m 450 (lA17 p1 p2 p3 p4 bT bF bG nn tF tG tH tA fa ff fg dd fh tt) [])) _
    exact kt
  · obtain ⟨cq1, kq1, q1a, q1b, q1c⟩ := isOf hZ rfl EtT
    obtain ⟨_, _, ⟨T1, L1, k1, n1⟩, -, X1, ⟨Lc1, hQ1, l1, y1, z1⟩, st1⟩ := X0.virtualBack hx (y := mn11) (z := mn11) hown (mvT hZ (wJ hw 101 rfl)) (mvT hZ (wJ hw 102 rfl)) (notFace_of_selects (args := #[]) (mvT hZ (wJ hw 104 rfl))) (mvT hZ (wJ hw 104 rfl)) (mvT hZ (wJ hw 103 rfl)) (by decide) (backOf (W := 1) (own_refuse l Z a0 hw [] tt fg (own_aw (own_aw .null dF ff) dG fg) .null (6 : Int32) dd dG TT.heap n0 Z0 EtT FtA FtR FtC FtD Eg Dg (own_awR (own_awR rfl)) hdG g_tt) hZ (wJ hw 105 rfl) (wJ hw 65 rfl) (by decide) (by decide)) q1a q1c (g := (mkF m 444 (lA17 p1 p2 p3 p4 bT bF bG nn tF tG tH tA fa ff fg dd fh tt) [(.ref fg), (.ref tt), (.int (1 : Int32))])) rfl (by rw [hml]; rfl) (Steps.refl _) (argsL := [(.ref fg)]) (rest := [(.int (1 : Int32))]) (lenOf pd__Lcom_example_hemotide_hemotide_link_Frame__Z rfl) rfl (by show 2 * 0 + _ ≤ _; exact Nat.le_of_eq rfl) (hb hby at_444) (fun _ _ => ⟨rfl, rfl, (by decide : 30 + 0 ≤ _), (by decide : 1500 + 0 ≤ _)⟩)
    dsimp only [Pt.U, Pt.locs, Pt.cells, Pt.slots] at X1 l1 y1 z1 st1 hQ1
    replace X1 := X1.more (Nat.le_of_eq (show k1 = 30 from y1)) (Nat.le_of_eq (show n1 = 1500 from z1))
    obtain ⟨rfl, Nq1, Kq1, Fa2, Fr2, Fc2, Fd2⟩ := hQ1
    have Z1 : n0 ≤ T1.heap.size := Nat.le_trans Z0 Kq1.1
    have hk1 : ks ≤ T1.heap.size := Nat.le_trans hk0 Kq1.1
    have WW1 : own_W nb TT.heap T1.heap := own_W.keep (own_W.refl nb TT.heap) Kq1 (allS w_tt all0)
    have N1 : Fr n0 L1 := by rw [l1]; exact Fr.app N0 Nq1
    have Fc3 : Fld Z T1.heap tt "com/example/hemotide/hemotide/link/Transfer" "refusedInARow" "I" (.int (7 : Int32)) := (by decide : ((6 : Int32) + (1 : Int32)) = (7 : Int32)) ▸ Fc2
    have Fa3 := Eq.mp (congrArg (fun z => Fld Z T1.heap tt "com/example/hemotide/hemotide/link/Transfer" "awaited" "Lcom/example/hemotide/hemotide/link/Frame;" z) (own_awI (aw := (own_aw .null dF ff)) (dv := dG) (x := fg))) Fa2
    have fc2 := (EtT.keep Kq1)
    refine own_End.by (g' := (mkF m 450 (lA17 p1 p2 p3 p4 bT bF bG nn tF tG tH tA fa ff fg dd fh tt) [])) (own_K3 hw Bd hml (X1.more (by decide : 30 ≤ 30) (by decide : 1500 ≤ 1500)) hS hk1 hZ hown (hn0 ▸ N1) (hn0 ▸ Z1) IBs hh hold HC HCW (own_W.trans W0 (own_W.mono hnb WW1)) hnb SC hcs SO ST VO VT hd1 hd2 ⟨fc2, Fa3, Fr2, Fc3, Fd2⟩ (Fh.W WW1) (Ff.W WW1) (Fg.W WW1) hFd hGd hne1 hne2 (Or.inr ⟨hn2, rfl⟩)) ?_
    intro tg kt
    show Steps _ _ _ (TT.setTop (mkF m 431 (lA17 p1 p2 p3 p4 bT bF bG nn tF tG tH tA fa ff fg dd fh tt) [])) _
    refine XS.iload X0.here hx rfl (hb hby at_431) rfl ?_
    refine XS.bipush X0.here hx rfl (hb hby at_433) ?_
    refine XS.icmpNo X0.here hx rfl (hb hby at_435) rfl (flt (hnj : ¬ (nn < (7 : Int32)))).1 ?_
    refine XS.iload X0.here hx rfl (hb hby at_438) rfl ?_
    show Steps _ _ _ (TT.setTop (mkF m 440 (lA17 p1 p2 p3 p4 bT bF bG nn tF tG tH tA fa ff fg dd fh tt) [(.int (1 : Int32))])) _
    refine XS.aload X0.here hx rfl (hb hby at_440) rfl rfl ?_
    refine XS.aload X0.here hx rfl (hb hby at_442) rfl rfl ?_
    refine st1.trans ?_
    show Steps _ _ _ (T1.setTop (mkF m 447 (lA17 p1 p2 p3 p4 bT bF bG nn tF tG tH tA fa ff fg dd fh tt) [(.int (own_rf (6 : Int32))), (.int (1 : Int32))])) _
    rw [(by decide : own_rf (6 : Int32) = (1 : Int32))]
    show Steps _ _ _ (T1.setTop (mkF m 447 (lA17 p1 p2 p3 p4 bT bF bG nn tF tG tH tA fa ff fg dd fh tt) [(.int (1 : Int32)), (.int (1 : Int32))])) _
    refine XS.iand X1.here hx rfl (hb hby at_447) rfl ?_
    show Steps _ _ _ (T1.setTop (mkF m 448 (lA17 p1 p2 p3 p4 bT bF bG nn tF tG tH tA fa ff fg dd fh tt) [(.int ((1 : Int32) &&& (1 : Int32)))])) _
    rw [(by decide : ((1 : Int32) &&& (1 : Int32)) = (1 : Int32))]
    show Steps _ _ _ (T1.setTop (mkF m 448 (lA17 p1 p2 p3 p4 bT bF bG nn tF tG tH tA fa ff fg dd fh tt) [(.int (1 : Int32))])) _
    refine XS.istore X1.here hx rfl (hb hby at_448) rfl (l' := (lA17 p1 p2 p3 p4 bT bF bG nn tF tG tH tA fa ff fg dd fh tt)) rfl ?_
    show Steps _ _ _ (T1.setTop (mkF m 450 (lA17 p1 p2 p3 p4 bT bF bG nn tF tG tH tA fa ff fg dd fh tt) [])) _
    exact kt
theorem own_K2_6 {p : Program} {l : Launch} {e : Env} {s : State} {m : MethodId} {args : Array Value} {below : List Frame} {meth : Method} {c : Code} {s₁ : State} {SS : Spec} {Z : State} {a0 : Array Value} {TT : State} {vm : Vm} {LL : List Loc} {ks : Nat} {p1 : Int32} {p2 : Int32} {p3 : Int32} {p4 : Int32} {bT : Int32} {bF : Int32} {bG : Int32} {nn : Int32} {tF : Addr} {tG : Addr} {tH : Addr} {tA : Addr} {fa : Addr} {ff : Addr} {fg : Addr} {dd : Int32} {fh : Addr} {tt : Addr} {uF : Int32} {uG : Int32} {uH : Int32} {dF : Value} {dG : Value} {h0 : Heap} {nb : Nat} {cs : Int32} {d1 : Addr} {d2 : Addr} {kd1 : ClassId} {kd2 : ClassId} {vo : List Value} {vt : List Value}
    (hw : ∀ d ∈ tables_1, d.before a0 Z = true)
    (Bd : BodyLoose p l x SS code maxLocals ret e s m args below meth c s₁)
    (hml : c.maxLocals = 22)
    (X0 : Stand p l e room_1 (s.setVm vm) m args below meth c TT LL 30 1500)
    (hS : s.Since vm ks)
    (hk0 : ks ≤ TT.heap.size)
    (hZ : Z.Warmed39 (s.setVm vm).vm)
    (hown : (s.setVm vm).vm.findClass "com/example/hemotide/hemotide/link/TransferRefusePinLaw" = some m.cls)
    (N0 : Fr s.heap.size LL)
    (Z0 : s.heap.size ≤ TT.heap.size)
    (IBs : IB Z vm [own_T305])
    (hh : s.heap = h0)
    (hold : ∀ (b : Addr) (cl : Cell), Z.heap[b]? = some cl → h0[b]? = some cl)
    (HC : ∀ q ∈ consts_1, Jvm.Lit.constHeld Z q.1 q.2)
    (HCW : Jvm.Lit.compactW.before a0 Z = true)
    (W0 : own_W h0.size h0 TT.heap)
    (hnb : h0.size ≤ nb)
    (SC : own_S Z h0 h0.size "java/lang/String" "COMPACT_STRINGS" "Z" (.int cs))
    (hcs : ¬ (cs = (0 : Int32)))
    (SO : own_S Z h0 h0.size "java/lang/Integer" "DigitOnes" "[B" (.ref d1))
    (ST : own_S Z h0 h0.size "java/lang/Integer" "DigitTens" "[B" (.ref d2))
    (VO : Arv Z h0 d1 kd1 .byte (100 : Int32) vo (.int (0 : Int32)))
    (VT : Arv Z h0 d2 kd2 .byte (100 : Int32) vt (.int (0 : Int32)))
    (hd1 : d1 < h0.size)
    (hd2 : d2 < h0.size)
    (Ht : own_trf Z TT.heap tt (own_aw (own_aw .null dF ff) dG fg) .null (5 : Int32) dd)
    (Fh : own_frm Z TT.heap nb fh (4 : Int64) (30 : Int64) dd tH uH .null)
    (Ff : own_frm Z TT.heap nb ff (2 : Int64) (10 : Int64) p2 tF uF dF)
    (Fg : own_frm Z TT.heap nb fg (3 : Int64) (20 : Int64) p3 tG uG dG)
    (hFd : (bF = (0 : Int32) ∧ dF = .null) ∨ (¬ bF = (0 : Int32) ∧ ∃ ba : Addr, dF = .ref ba))
    (hGd : (bG = (0 : Int32) ∧ dG = .null) ∨ (¬ bG = (0 : Int32) ∧ ∃ ba : Addr, dG = .ref ba))
    (hne1 : tH ≠ tF)
    (hne2 : tH ≠ tG)
    (w_tt : nb ≤ tt)
    (hn2 : ¬ nn < (2 : Int32)) : own_End p e below s TT (mkF m 412 (lA17 p1 p2 p3 p4 bT bF bG nn tF tG tH tA fa ff fg dd fh tt) []) := by
  have hx := Bd.exec
  have hZa := hZ
  have howna := hown
  have hby : c.code = code := Bd.bytes
  have own_wS : ∀ d ∈ Bundle.stringAtoms, d.before a0 Z = true := own_wSof hw
  obtain ⟨n0, hn0⟩ : ∃ z, z = s.heap.size := ⟨_, rfl⟩
  rw [← hn0] at N0 Z0
  obtain ⟨EtT, FtA, FtR, FtC, FtD⟩ := id Ht
  have g_tt : n0 ≤ tt := Nat.le_trans (Nat.le_of_eq (by rw [hn0, hh])) (Nat.le_trans hnb w_tt)
  obtain ⟨Eg, Pg, Og, Mg, Xg, Dg, Sg, ltg⟩ := id Fg
  have hdG : dG.isRef = true := by rcases hGd with ⟨-, q⟩ | ⟨-, _, q⟩ <;> rw [q] <;> rfl
  by_cases hnj : nn < (6 : Int32)
  · refine own_End.by (g' := (mkF m 450 (lA17 p1 p2 p3 p4 bT bF bG nn tF tG tH tA fa ff fg dd fh tt) [])) (own_K3 hw Bd hml (X0.more (by decide : 30 ≤ 30) (by decide : 1500 ≤ 1500)) hS hk0 hZ hown (hn0 ▸ N0) (hn0 ▸ Z0) IBs hh hold HC HCW (own_W.trans W0 (own_W.mono hnb (own_W.refl nb TT.heap))) hnb SC hcs SO ST VO VT hd1 hd2 Ht (Fh.W (own_W.refl nb TT.heap)) (Ff.W (own_W.refl nb TT.heap)) (Fg.W (own_W.refl nb TT.heap)) hFd hGd hne1 hne2 (Or.inr ⟨hn2, rfl⟩)) ?_
    intro tg kt
    show Steps _ _ _ (TT.setTop (mkF m 412 (lA17 p1 p2 p3 p4 bT bF bG nn tF tG tH tA fa ff fg dd fh tt) [])) _
    refine XS.iload X0.here hx rfl (hb hby at_412) rfl ?_
    refine XS.bipush X0.here hx rfl (hb hby at_414) ?_
    refine XS.icmpYes X0.here hx rfl (pc0 := 416) (pc' := 431) rfl (hb hby at_416) rfl (tlt (hnj : nn < (6 : Int32))).1 (by decide) (by decide) ?_
    refine XS.iload X0.here hx rfl (hb hby at_431) rfl ?_
    show Steps _ _ _ (TT.setTop (mkF m 433 (lA17 p1 p2 p3 p4 bT bF bG nn tF tG tH tA fa ff fg dd fh tt) [(.int nn)])) _
    refine XS.bipush X0.here hx rfl (hb hby at_433) ?_
    refine XS.icmpYes X0.here hx rfl (pc0 := 435) (pc' := 450) rfl (hb hby at_435) rfl (tlt (own_lt hnj (by decide) : nn < (7 : Int32))).1 (by decide) (by decide) ?_
    show Steps _ _ _ (TT.setTop (mkF m 450 (lA17 p1 p2 p3 p4 bT bF bG nn tF tG tH tA fa ff fg dd fh tt) [])) _
    exact kt
  · obtain ⟨cq1, kq1, q1a, q1b, q1c⟩ := isOf hZ rfl EtT
    obtain ⟨_, _, ⟨T1, L1, k1, n1⟩, -, X1, ⟨Lc1, hQ1, l1, y1, z1⟩, st1⟩ := X0.virtualBack hx (y := mn11) (z := mn11) hown (mvT hZ (wJ hw 101 rfl)) (mvT hZ (wJ hw 102 rfl)) (notFace_of_selects (args := #[]) (mvT hZ (wJ hw 104 rfl))) (mvT hZ (wJ hw 104 rfl)) (mvT hZ (wJ hw 103 rfl)) (by decide) (backOf (W := 1) (own_refuse l Z a0 hw [] tt fg (own_aw (own_aw .null dF ff) dG fg) .null (5 : Int32) dd dG TT.heap n0 Z0 EtT FtA FtR FtC FtD Eg Dg (own_awR (own_awR rfl)) hdG g_tt) hZ (wJ hw 105 rfl) (wJ hw 65 rfl) (by decide) (by decide)) q1a q1c (g := (mkF m 425 (lA17 p1 p2 p3 p4 bT bF bG nn tF tG tH tA fa ff fg dd fh tt) [(.ref fg), (.ref tt), (.int (1 : Int32))])) rfl (by rw [hml]; rfl) (Steps.refl _) (argsL := [(.ref fg)]) (rest := [(.int (1 : Int32))]) (lenOf pd__Lcom_example_hemotide_hemotide_link_Frame__Z rfl) rfl (by show 2 * 0 + _ ≤ _; exact Nat.le_of_eq rfl) (hb hby at_425) (fun _ _ => ⟨rfl, rfl, (by decide : 30 + 0 ≤ _), (by decide : 1500 + 0 ≤ _)⟩)
    dsimp only [Pt.U, Pt.locs, Pt.cells, Pt.slots] at X1 l1 y1 z1 st1 hQ1
    replace X1 := X1.more (Nat.le_of_eq (show k1 = 30 from y1)) (Nat.le_of_eq (show n1 = 1500 from z1))
    obtain ⟨rfl, Nq1, Kq1, Fa2, Fr2, Fc2, Fd2⟩ := hQ1
    have Z1 : n0 ≤ T1.heap.size := Nat.le_trans Z0 Kq1.1
    have hk1 : ks ≤ T1.heap.size := Nat.le_trans hk0 Kq1.1
    have WW1 : own_W nb TT.heap T1.heap := own_W.keep (own_W.refl nb TT.heap) Kq1 (allS w_tt all0)
    have N1 : Fr n0 L1 := by rw [l1]; exact Fr.app N0 Nq1
    have Fc3 : Fld Z T1.heap tt "com/example/hemotide/hemotide/link/Transfer" "refusedInARow" "I" (.int (6 : Int32)) := (by decide : ((5 : Int32) + (1 : Int32)) = (6 : Int32)) ▸ Fc2
    have Fa3 := Eq.mp (congrArg (fun z => Fld Z T1.heap tt "com/example/hemotide/hemotide/link/Transfer" "awaited" "Lcom/example/hemotide/hemotide/link/Frame;" z) (own_awI (aw := (own_aw .null dF ff)) (dv := dG) (x := fg))) Fa2
    have fc2 := (EtT.keep Kq1)
    refine own_End.by (g' := (mkF m 431 (lA17 p1 p2 p3 p4 bT bF bG nn tF tG tH tA fa ff fg dd fh tt) [])) (own_K2_7 hw Bd hml (X1.more (by decide : 30 ≤ 30) (by decide : 1500 ≤ 1500)) hS hk1 hZ hown (hn0 ▸ N1) (hn0 ▸ Z1) IBs hh hold HC HCW (own_W.trans W0 (own_W.mono hnb WW1)) hnb SC hcs SO ST VO VT hd1 hd2 ⟨fc2, Fa3, Fr2, Fc3, Fd2⟩ (Fh.W WW1) (Ff.W WW1) (Fg.W WW1) hFd hGd hne1 hne2 w_tt hn2) ?_
    intro tg kt
    show Steps _ _ _ (TT.setTop (mkF m 412 (lA17 p1 p2 p3 p4 bT bF bG nn tF tG tH tA fa ff fg dd fh tt) [])) _
    refine XS.iload X0.here hx rfl (hb hby at_412) rfl ?_
    refine XS.bipush X0.here hx rfl (hb hby at_414) ?_
    refine XS.icmpNo X0.here hx rfl (hb hby at_416) rfl (flt (hnj : ¬ (nn < (6 : Int32)))).1 ?_
    refine XS.iload X0.here hx rfl (hb hby at_419) rfl ?_
    show Steps _ _ _ (TT.setTop (mkF m 421 (lA17 p1 p2 p3 p4 bT bF bG nn tF tG tH tA fa ff fg dd fh tt) [(.int (1 : Int32))])) _
    refine XS.aload X0.here hx rfl (hb hby at_421) rfl rfl ?_
    refine XS.aload X0.here hx rfl (hb hby at_423) rfl rfl ?_
    refine st1.trans ?_
    show Steps _ _ _ (T1.setTop (mkF m 428 (lA17 p1 p2 p3 p4 bT bF bG nn tF tG tH tA fa ff fg dd fh tt) [(.int (own_rf (5 : Int32))), (.int (1 : Int32))])) _
    rw [(by decide : own_rf (5 : Int32) = (1 : Int32))]
    show Steps _ _ _ (T1.setTop (mkF m 428 (lA17 p1 p2 p3 p4 bT bF bG nn tF tG tH tA fa ff fg dd fh tt) [(.int (1 : Int32)), (.int (1 : Int32))])) _
    refine XS.iand X1.here hx rfl (hb hby at_428) rfl ?_
    show Steps _ _ _ (T1.setTop (mkF m 429 (lA17 p1 p2 p3 p4 bT bF bG nn tF tG tH tA fa ff fg dd fh tt) [(.int ((1 : Int32) &&& (1 : Int32)))])) _
    rw [(by decide : ((1 : Int32) &&& (1 : Int32)) = (1 : Int32))]
    show Steps _ _ _ (T1.setTop (mkF m 429 (lA17 p1 p2 p3 p4 bT bF bG nn tF tG tH tA fa ff fg dd fh tt) [(.int (1 : Int32))])) _
    refine XS.istore X1.here hx rfl (hb hby at_429) rfl (l' := (lA17 p1 p2 p3 p4 bT bF bG nn tF tG tH tA fa ff fg dd fh tt)) rfl ?_
    show Steps _ _ _ (T1.setTop (mkF m 431 (lA17 p1 p2 p3 p4 bT bF bG nn tF tG tH tA fa ff fg dd fh tt) [])) _
    exact kt
theorem own_K2_5 {p : Program} {l : Launch} {e : Env} {s : State} {m : MethodId} {args : Array Value} {below : List Frame} {meth : Method} {c : Code} {s₁ : State} {SS : Spec} {Z : State} {a0 : Array Value} {TT : State} {vm : Vm} {LL : List Loc} {ks : Nat} {p1 : Int32} {p2 : Int32} {p3 : Int32} {p4 : Int32} {bT : Int32} {bF : Int32} {bG : Int32} {nn : Int32} {tF : Addr} {tG : Addr} {tH : Addr} {tA : Addr} {fa : Addr} {ff : Addr} {fg : Addr} {dd : Int32} {fh : Addr} {tt : Addr} {uF : Int32} {uG : Int32} {uH : Int32} {dF : Value} {dG : Value} {h0 : Heap} {nb : Nat} {cs : Int32} {d1 : Addr} {d2 : Addr} {kd1 : ClassId} {kd2 : ClassId} {vo : List Value} {vt : List Value}
    (hw : ∀ d ∈ tables_1, d.before a0 Z = true)
    (Bd : BodyLoose p l x SS code maxLocals ret e s m args below meth c s₁)
    (hml : c.maxLocals = 22)
    (X0 : Stand p l e room_1 (s.setVm vm) m args below meth c TT LL 30 1500)
    (hS : s.Since vm ks)
    (hk0 : ks ≤ TT.heap.size)
    (hZ : Z.Warmed39 (s.setVm vm).vm)
    (hown : (s.setVm vm).vm.findClass "com/example/hemotide/hemotide/link/TransferRefusePinLaw" = some m.cls)
    (N0 : Fr s.heap.size LL)
    (Z0 : s.heap.size ≤ TT.heap.size)
    (IBs : IB Z vm [own_T305])
    (hh : s.heap = h0)
    (hold : ∀ (b : Addr) (cl : Cell), Z.heap[b]? = some cl → h0[b]? = some cl)
    (HC : ∀ q ∈ consts_1, Jvm.Lit.constHeld Z q.1 q.2)
    (HCW : Jvm.Lit.compactW.before a0 Z = true)
    (W0 : own_W h0.size h0 TT.heap)
    (hnb : h0.size ≤ nb)
    (SC : own_S Z h0 h0.size "java/lang/String" "COMPACT_STRINGS" "Z" (.int cs))
    (hcs : ¬ (cs = (0 : Int32)))
    (SO : own_S Z h0 h0.size "java/lang/Integer" "DigitOnes" "[B" (.ref d1))
    (ST : own_S Z h0 h0.size "java/lang/Integer" "DigitTens" "[B" (.ref d2))
    (VO : Arv Z h0 d1 kd1 .byte (100 : Int32) vo (.int (0 : Int32)))
    (VT : Arv Z h0 d2 kd2 .byte (100 : Int32) vt (.int (0 : Int32)))
    (hd1 : d1 < h0.size)
    (hd2 : d2 < h0.size)
    (Ht : own_trf Z TT.heap tt (own_aw (own_aw .null dF ff) dG fg) .null (4 : Int32) dd)
    (Fh : own_frm Z TT.heap nb fh (4 : Int64) (30 : Int64) dd tH uH .null)
    (Ff : own_frm Z TT.heap nb ff (2 : Int64) (10 : Int64) p2 tF uF dF)
    (Fg : own_frm Z TT.heap nb fg (3 : Int64) (20 : Int64) p3 tG uG dG)
    (hFd : (bF = (0 : Int32) ∧ dF = .null) ∨ (¬ bF = (0 : Int32) ∧ ∃ ba : Addr, dF = .ref ba))
    (hGd : (bG = (0 : Int32) ∧ dG = .null) ∨ (¬ bG = (0 : Int32) ∧ ∃ ba : Addr, dG = .ref ba))
    (hne1 : tH ≠ tF)
    (hne2 : tH ≠ tG)
    (w_tt : nb ≤ tt)
    (hn2 : ¬ nn < (2 : Int32)) : own_End p e below s TT (mkF m 386 (lA17 p1 p2 p3 p4 bT bF bG nn tF tG tH tA fa ff fg dd fh tt) []) := by
  have hx := Bd.exec
  have hZa := hZ
  have howna := hown
  have hby : c.code = code := Bd.bytes
  have own_wS : ∀ d ∈ Bundle.stringAtoms, d.before a0 Z = true := own_wSof hw
  obtain ⟨n0, hn0⟩ : ∃ z, z = s.heap.size := ⟨_, rfl⟩
  rw [← hn0] at N0 Z0
  obtain ⟨EtT, FtA, FtR, FtC, FtD⟩ := id Ht
  have g_tt : n0 ≤ tt := Nat.le_trans (Nat.le_of_eq (by rw [hn0, hh])) (Nat.le_trans hnb w_tt)
  obtain ⟨Eg, Pg, Og, Mg, Xg, Dg, Sg, ltg⟩ := id Fg
  have hdG : dG.isRef = true := by rcases hGd with ⟨-, q⟩ | ⟨-, _, q⟩ <;> rw [q] <;> rfl
  by_cases hnj : nn < (5 : Int32)
  · refine own_End.by (g' := (mkF m 450 (lA17 p1 p2 p3 p4 bT bF bG nn tF tG tH tA fa ff fg dd fh tt) [])) (own_K3 hw Bd hml (X0.more (by decide : 30 ≤ 30) (by decide : 1500 ≤ 1500)) hS hk0 hZ hown (hn0 ▸ N0) (hn0 ▸ Z0) IBs hh hold HC HCW (own_W.trans W0 (own_W.mono hnb (own_W.refl nb TT.heap))) hnb SC hcs SO ST VO VT hd1 hd2 Ht (Fh.W (own_W.refl nb TT.heap)) (Ff.W (own_W.refl nb TT.heap)) (Fg.W (own_W.refl nb TT.heap)) hFd hGd hne1 hne2 (Or.inr ⟨hn2, rfl⟩)) ?_
    intro tg kt
    show Steps _ _ _ (TT.setTop (mkF m 386 (lA17 p1 p2 p3 p4 bT bF bG nn tF tG tH tA fa ff fg dd fh tt) [])) _
    refine XS.iload X0.here hx rfl (hb hby at_386) rfl ?_
    refine XS.iconst X0.here hx rfl (hb hby at_388) ?_
    refine XS.icmpYes X0.here hx rfl (pc0 := 389) (pc' := 412) rfl (hb hby at_389) rfl (tlt (hnj : nn < (5 : Int32))).1 (by decide) (by decide) ?_
    refine XS.iload X0.here hx rfl (hb hby at_412) rfl ?_
    show Steps _ _ _ (TT.setTop (mkF m 414 (lA17 p1 p2 p3 p4 bT bF bG nn tF tG tH tA fa ff fg dd fh tt) [(.int nn)])) _
    refine XS.bipush X0.here hx rfl (hb hby at_414) ?_
    refine XS.icmpYes X0.here hx rfl (pc0 := 416) (pc' := 431) rfl (hb hby at_416) rfl (tlt (own_lt hnj (by decide) : nn < (6 : Int32))).1 (by decide) (by decide) ?_
    refine XS.iload X0.here hx rfl (hb hby at_431) rfl ?_
    refine XS.bipush X0.here hx rfl (hb hby at_433) ?_
    show Steps _ _ _ (TT.setTop (mkF m 435 (lA17 p1 p2 p3 p4 bT bF bG nn tF tG tH tA fa ff fg dd fh tt) [(.int (7 : Int32)), (.int nn)])) _
    refine XS.icmpYes X0.here hx rfl (pc0 := 435) (pc' := 450) rfl (hb hby at_435) rfl (tlt (own_lt hnj (by decide) : nn < (7 : Int32))).1 (by decide) (by decide) ?_
    show Steps _ _ _ (TT.setTop (mkF m 450 (lA17 p1 p2 p3 p4 bT bF bG nn tF tG tH tA fa ff fg dd fh tt) [])) _
    exact kt
  · obtain ⟨cq1, kq1, q1a, q1b, q1c⟩ := isOf hZ rfl EtT
    obtain ⟨_, _, ⟨T1, L1, k1, n1⟩, -, X1, ⟨Lc1, hQ1, l1, y1, z1⟩, st1⟩ := X0.virtualBack hx (y := mn11) (z := mn11) hown (mvT hZ (wJ hw 101 rfl)) (mvT hZ (wJ hw 102 rfl)) (notFace_of_selects (args := #[]) (mvT hZ (wJ hw 104 rfl))) (mvT hZ (wJ hw 104 rfl)) (mvT hZ (wJ hw 103 rfl)) (by decide) (backOf (W := 1) (own_refuse l Z a0 hw [] tt fg (own_aw (own_aw .null dF ff) dG fg) .null (4 : Int32) dd dG TT.heap n0 Z0 EtT FtA FtR FtC FtD Eg Dg (own_awR (own_awR rfl)) hdG g_tt) hZ (wJ hw 105 rfl) (wJ hw 65 rfl) (by decide) (by decide)) q1a q1c (g := (mkF m 398 (lA17 p1 p2 p3 p4 bT bF bG nn tF tG tH tA fa ff fg dd fh tt) [(.ref fg), (.ref tt), (.int (1 : Int32))])) rfl (by rw [hml]; rfl) (Steps.refl _) (argsL := [(.ref fg)]) (rest := [(.int (1 : Int32))]) (lenOf pd__Lcom_example_hemotide_hemotide_link_Frame__Z rfl) rfl (by show 2 * 0 + _ ≤ _; exact Nat.le_of_eq rfl) (hb hby at_398) (fun _ _ => ⟨rfl, rfl, (by decide : 30 + 0 ≤ _), (by decide : 1500 + 0 ≤ _)⟩)
    dsimp only [Pt.U, Pt.locs, Pt.cells, Pt.slots] at X1 l1 y1 z1 st1 hQ1
    replace X1 := X1.more (Nat.le_of_eq (show k1 = 30 from y1)) (Nat.le_of_eq (show n1 = 1500 from z1))
    obtain ⟨rfl, Nq1, Kq1, Fa2, Fr2, Fc2, Fd2⟩ := hQ1
    have Z1 : n0 ≤ T1.heap.size := Nat.le_trans Z0 Kq1.1
    have hk1 : ks ≤ T1.heap.size := Nat.le_trans hk0 Kq1.1
    have WW1 : own_W nb TT.heap T1.heap := own_W.keep (own_W.refl nb TT.heap) Kq1 (allS w_tt all0)
    have N1 : Fr n0 L1 := by rw [l1]; exact Fr.app N0 Nq1
    have Fc3 : Fld Z T1.heap tt "com/example/hemotide/hemotide/link/Transfer" "refusedInARow" "I" (.int (5 : Int32)) := (by decide : ((4 : Int32) + (1 : Int32)) = (5 : Int32)) ▸ Fc2
    have Fa3 := Eq.mp (congrArg (fun z => Fld Z T1.heap tt "com/example/hemotide/hemotide/link/Transfer" "awaited" "Lcom/example/hemotide/hemotide/link/Frame;" z) (own_awI (aw := (own_aw .null dF ff)) (dv := dG) (x := fg))) Fa2
    have fc2 := (EtT.keep Kq1)
    refine own_End.by (g' := (mkF m 412 (lA17 p1 p2 p3 p4 bT bF bG nn tF tG tH tA fa ff fg dd fh tt) [])) (own_K2_6 hw Bd hml (X1.more (by decide : 30 ≤ 30) (by decide : 1500 ≤ 1500)) hS hk1 hZ hown (hn0 ▸ N1) (hn0 ▸ Z1) IBs hh hold HC HCW (own_W.trans W0 (own_W.mono hnb WW1)) hnb SC hcs SO ST VO VT hd1 hd2 ⟨fc2, Fa3, Fr2, Fc3, Fd2⟩ (Fh.W WW1) (Ff.W WW1) (Fg.W WW1) hFd hGd hne1 hne2 w_tt hn2) ?_
    intro tg kt
    show Steps _ _ _ (TT.setTop (mkF m 386 (lA17 p1 p2 p3 p4 bT bF bG nn tF tG tH tA fa ff fg dd fh tt) [])) _
    refine XS.iload X0.here hx rfl (hb hby at_386) rfl ?_
    refine XS.iconst X0.here hx rfl (hb hby at_388) ?_
    refine XS.icmpNo X0.here hx rfl (hb hby at_389) rfl (flt (hnj : ¬ (nn < (5 : Int32)))).1 ?_
    refine XS.iload X0.here hx rfl (hb hby at_392) rfl ?_
    show Steps _ _ _ (TT.setTop (mkF m 394 (lA17 p1 p2 p3 p4 bT bF bG nn tF tG tH tA fa ff fg dd fh tt) [(.int (1 : Int32))])) _
    refine XS.aload X0.here hx rfl (hb hby at_394) rfl rfl ?_
    refine XS.aload X0.here hx rfl (hb hby at_396) rfl rfl ?_
    refine st1.trans ?_
    show Steps _ _ _ (T1.setTop (mkF m 401 (lA17 p1 p2 p3 p4 bT bF bG nn tF tG tH tA fa ff fg dd fh tt) [(.int (own_rf (4 : Int32))), (.int (1 : Int32))])) _
    rw [(by decide : own_rf (4 : Int32) = (0 : Int32))]
    show Steps _ _ _ (T1.setTop (mkF m 401 (lA17 p1 p2 p3 p4 bT bF bG nn tF tG tH tA fa ff fg dd fh tt) [(.int (0 : Int32)), (.int (1 : Int32))])) _
    refine XS.ifNo X1.here hx rfl (hb hby at_401) rfl ((if0 _ _).trans (teq (rfl : (0 : Int32) = (0 : Int32))).2) ?_
    refine XS.iconst X1.here hx rfl (hb hby at_404) ?_
    refine XS.goto X1.here hx rfl (pc0 := 405) (pc' := 409) rfl (hb hby at_405) (by decide) (by decide) ?_
    refine XS.iand X1.here hx rfl (hb hby at_409) rfl ?_
    show Steps _ _ _ (T1.setTop (mkF m 410 (lA17 p1 p2 p3 p4 bT bF bG nn tF tG tH tA fa ff fg dd fh tt) [(.int ((1 : Int32) &&& (1 : Int32)))])) _
    rw [(by decide : ((1 : Int32) &&& (1 : Int32)) = (1 : Int32))]
    show Steps _ _ _ (T1.setTop (mkF m 410 (lA17 p1 p2 p3 p4 bT bF bG nn tF tG tH tA fa ff fg dd fh tt) [(.int (1 : Int32))])) _
    refine XS.istore X1.here hx rfl (hb hby at_410) rfl (l' := (lA17 p1 p2 p3 p4 bT bF bG nn tF tG tH tA fa ff fg dd fh tt)) rfl ?_
    show Steps _ _ _ (T1.setTop (mkF m 412 (lA17 p1 p2 p3 p4 bT bF bG nn tF tG tH tA fa ff fg dd fh tt) [])) _
    exact kt
theorem own_K2_4 {p : Program} {l : Launch} {e : Env} {s : State} {m : MethodId} {args : Array Value} {below : List Frame} {meth : Method} {c : Code} {s₁ : State} {SS : Spec} {Z : State} {a0 : Array Value} {TT : State} {vm : Vm} {LL : List Loc} {ks : Nat} {p1 : Int32} {p2 : Int32} {p3 : Int32} {p4 : Int32} {bT : Int32} {bF : Int32} {bG : Int32} {nn : Int32} {tF : Addr} {tG : Addr} {tH : Addr} {tA : Addr} {fa : Addr} {ff : Addr} {fg : Addr} {dd : Int32} {fh : Addr} {tt : Addr} {uF : Int32} {uG : Int32} {uH : Int32} {dF : Value} {dG : Value} {h0 : Heap} {nb : Nat} {cs : Int32} {d1 : Addr} {d2 : Addr} {kd1 : ClassId} {kd2 : ClassId} {vo : List Value} {vt : List Value}
    (hw : ∀ d ∈ tables_1, d.before a0 Z = true)
    (Bd : BodyLoose p l x SS code maxLocals ret e s m args below meth c s₁)
    (hml : c.maxLocals = 22)
    (X0 : Stand p l e room_1 (s.setVm vm) m args below meth c TT LL 30 1500)
    (hS : s.Since vm ks)
    (hk0 : ks ≤ TT.heap.size)
    (hZ : Z.Warmed39 (s.setVm vm).vm)
    (hown : (s.setVm vm).vm.findClass "com/example/hemotide/hemotide/link/TransferRefusePinLaw" = some m.cls)
    (N0 : Fr s.heap.size LL)
    (Z0 : s.heap.size ≤ TT.heap.size)
    (IBs : IB Z vm [own_T305])
    (hh : s.heap = h0)
    (hold : ∀ (b : Addr) (cl : Cell), Z.heap[b]? = some cl → h0[b]? = some cl)
    (HC : ∀ q ∈ consts_1, Jvm.Lit.constHeld Z q.1 q.2)
    (HCW : Jvm.Lit.compactW.before a0 Z = true)
    (W0 : own_W h0.size h0 TT.heap)
    (hnb : h0.size ≤ nb)
    (SC : own_S Z h0 h0.size "java/lang/String" "COMPACT_STRINGS" "Z" (.int cs))
    (hcs : ¬ (cs = (0 : Int32)))
    (SO : own_S Z h0 h0.size "java/lang/Integer" "DigitOnes" "[B" (.ref d1))
    (ST : own_S Z h0 h0.size "java/lang/Integer" "DigitTens" "[B" (.ref d2))
    (VO : Arv Z h0 d1 kd1 .byte (100 : Int32) vo (.int (0 : Int32)))
    (VT : Arv Z h0 d2 kd2 .byte (100 : Int32) vt (.int (0 : Int32)))
    (hd1 : d1 < h0.size)
    (hd2 : d2 < h0.size)
    (Ht : own_trf Z TT.heap tt (own_aw (own_aw .null dF ff) dG fg) .null (3 : Int32) dd)
    (Fh : own_frm Z TT.heap nb fh (4 : Int64) (30 : Int64) dd tH uH .null)
    (Ff : own_frm Z TT.heap nb ff (2 : Int64) (10 : Int64) p2 tF uF dF)
    (Fg : own_frm Z TT.heap nb fg (3 : Int64) (20 : Int64) p3 tG uG dG)
    (hFd : (bF = (0 : Int32) ∧ dF = .null) ∨ (¬ bF = (0 : Int32) ∧ ∃ ba : Addr, dF = .ref ba))
    (hGd : (bG = (0 : Int32) ∧ dG = .null) ∨ (¬ bG = (0 : Int32) ∧ ∃ ba : Addr, dG = .ref ba))
    (hne1 : tH ≠ tF)
    (hne2 : tH ≠ tG)
    (w_tt : nb ≤ tt)
    (hn2 : ¬ nn < (2 : Int32)) : own_End p e below s TT (mkF m 360 (lA17 p1 p2 p3 p4 bT bF bG nn tF tG tH tA fa ff fg dd fh tt) []) := by
  have hx := Bd.exec
  have hZa := hZ
  have howna := hown
  have hby : c.code = code := Bd.bytes
  have own_wS : ∀ d ∈ Bundle.stringAtoms, d.before a0 Z = true := own_wSof hw
  obtain ⟨n0, hn0⟩ : ∃ z, z = s.heap.size := ⟨_, rfl⟩
  rw [← hn0] at N0 Z0
  obtain ⟨EtT, FtA, FtR, FtC, FtD⟩ := id Ht
  have g_tt : n0 ≤ tt := Nat.le_trans (Nat.le_of_eq (by rw [hn0, hh])) (Nat.le_trans hnb w_tt)
  obtain ⟨Eg, Pg, Og, Mg, Xg, Dg, Sg, ltg⟩ := id Fg
  have hdG : dG.isRef = true := by rcases hGd with ⟨-, q⟩ | ⟨-, _, q⟩ <;> rw [q] <;> rfl
  by_cases hnj : nn < (4 : Int32)
  · refine own_End.by (g' := (mkF m 450 (lA17 p1 p2 p3 p4 bT bF bG nn tF tG tH tA fa ff fg dd fh tt) [])) (own_K3 hw Bd hml (X0.more (by decide : 30 ≤ 30) (by decide : 1500 ≤ 1500)) hS hk0 hZ hown (hn0 ▸ N0) (hn0 ▸ Z0) IBs hh hold HC HCW (own_W.trans W0 (own_W.mono hnb (own_W.refl nb TT.heap))) hnb SC hcs SO ST VO VT hd1 hd2 Ht (Fh.W (own_W.refl nb TT.heap)) (Ff.W (own_W.refl nb TT.heap)) (Fg.W (own_W.refl nb TT.heap)) hFd hGd hne1 hne2 (Or.inr ⟨hn2, rfl⟩)) ?_
    intro tg kt
    show Steps _ _ _ (TT.setTop (mkF m 360 (lA17 p1 p2 p3 p4 bT bF bG nn tF tG tH tA fa ff fg dd fh tt) [])) _
    refine XS.iload X0.here hx rfl (hb hby at_360) rfl ?_
    refine XS.iconst X0.here hx rfl (hb hby at_362) ?_
    refine XS.icmpYes X0.here hx rfl (pc0 := 363) (pc' := 386) rfl (hb hby at_363) rfl (tlt (hnj : nn < (4 : Int32))).1 (by decide) (by decide) ?_
    refine XS.iload X0.here hx rfl (hb hby at_386) rfl ?_
    show Steps _ _ _ (TT.setTop (mkF m 388 (lA17 p1 p2 p3 p4 bT bF bG nn tF tG tH tA fa ff fg dd fh tt) [(.int nn)])) _
    refine XS.iconst X0.here hx rfl (hb hby at_388) ?_
    refine XS.icmpYes X0.here hx rfl (pc0 := 389) (pc' := 412) rfl (hb hby at_389) rfl (tlt (own_lt hnj (by decide) : nn < (5 : Int32))).1 (by decide) (by decide) ?_
    refine XS.iload X0.here hx rfl (hb hby at_412) rfl ?_
    refine XS.bipush X0.here hx rfl (hb hby at_414) ?_
    show Steps _ _ _ (TT.setTop (mkF m 416 (lA17 p1 p2 p3 p4 bT bF bG nn tF tG tH tA fa ff fg dd fh tt) [(.int (6 : Int32)), (.int nn)])) _
    refine XS.icmpYes X0.here hx rfl (pc0 := 416) (pc' := 431) rfl (hb hby at_416) rfl (tlt (own_lt hnj (by decide) : nn < (6 : Int32))).1 (by decide) (by decide) ?_
    refine XS.iload X0.here hx rfl (hb hby at_431) rfl ?_
    refine XS.bipush X0.here hx rfl (hb hby at_433) ?_
    refine XS.icmpYes X0.here hx rfl (pc0 := 435) (pc' := 450) rfl (hb hby at_435) rfl (tlt (own_lt hnj (by decide) : nn < (7 : Int32))).1 (by decide) (by decide) ?_
    show Steps _ _ _ (TT.setTop (mkF m 450 (lA17 p1 p2 p3 p4 bT bF bG nn tF tG tH tA fa ff fg dd fh tt) [])) _
    exact kt
  · obtain ⟨cq1, kq1, q1a, q1b, q1c⟩ := isOf hZ rfl EtT
    obtain ⟨_, _, ⟨T1, L1, k1, n1⟩, -, X1, ⟨Lc1, hQ1, l1, y1, z1⟩, st1⟩ := X0.virtualBack hx (y := mn11) (z := mn11) hown (mvT hZ (wJ hw 101 rfl)) (mvT hZ (wJ hw 102 rfl)) (notFace_of_selects (args := #[]) (mvT hZ (wJ hw 104 rfl))) (mvT hZ (wJ hw 104 rfl)) (mvT hZ (wJ hw 103 rfl)) (by decide) (backOf (W := 1) (own_refuse l Z a0 hw [] tt fg (own_aw (own_aw .null dF ff) dG fg) .null (3 : Int32) dd dG TT.heap n0 Z0 EtT FtA FtR FtC FtD Eg Dg (own_awR (own_awR rfl)) hdG g_tt) hZ (wJ hw 105 rfl) (wJ hw 65 rfl) (by decide) (by decide)) q1a q1c (g := (mkF m 372 (lA17 p1 p2 p3 p4 bT bF bG nn tF tG tH tA fa ff fg dd fh tt) [(.ref fg), (.ref tt), (.int (1 : Int32))])) rfl (by rw [hml]; rfl) (Steps.refl _) (argsL := [(.ref fg)]) (rest := [(.int (1 : Int32))]) (lenOf pd__Lcom_example_hemotide_hemotide_link_Frame__Z rfl) rfl (by show 2 * 0 + _ ≤ _; exact Nat.le_of_eq rfl) (hb hby at_372) (fun _ _ => ⟨rfl, rfl, (by decide : 30 + 0 ≤ _), (by decide : 1500 + 0 ≤ _)⟩)
    dsimp only [Pt.U, Pt.locs, Pt.cells, Pt.slots] at X1 l1 y1 z1 st1 hQ1
    replace X1 := X1.more (Nat.le_of_eq (show k1 = 30 from y1)) (Nat.le_of_eq (show n1 = 1500 from z1))
    obtain ⟨rfl, Nq1, Kq1, Fa2, Fr2, Fc2, Fd2⟩ := hQ1
    have Z1 : n0 ≤ T1.heap.size := Nat.le_trans Z0 Kq1.1
    have hk1 : ks ≤ T1.heap.size := Nat.le_trans hk0 Kq1.1
    have WW1 : own_W nb TT.heap T1.heap := own_W.keep (own_W.refl nb TT.heap) Kq1 (allS w_tt all0)
    have N1 : Fr n0 L1 := by rw [l1]; exact Fr.app N0 Nq1
    have Fc3 : Fld Z T1.heap tt "com/example/hemotide/hemotide/link/Transfer" "refusedInARow" "I" (.int (4 : Int32)) := (by decide : ((3 : Int32) + (1 : Int32)) = (4 : Int32)) ▸ Fc2
    have Fa3 := Eq.mp (congrArg (fun z => Fld Z T1.heap tt "com/example/hemotide/hemotide/link/Transfer" "awaited" "Lcom/example/hemotide/hemotide/link/Frame;" z) (own_awI (aw := (own_aw .null dF ff)) (dv := dG) (x := fg))) Fa2
    have fc2 := (EtT.keep Kq1)
    refine own_End.by (g' := (mkF m 386 (lA17 p1 p2 p3 p4 bT bF bG nn tF tG tH tA fa ff fg dd fh tt) [])) (own_K2_5 hw Bd hml (X1.more (by decide : 30 ≤ 30) (by decide : 1500 ≤ 1500)) hS hk1 hZ hown (hn0 ▸ N1) (hn0 ▸ Z1) IBs hh hold HC HCW (own_W.trans W0 (own_W.mono hnb WW1)) hnb SC hcs SO ST VO VT hd1 hd2 ⟨fc2, Fa3, Fr2, Fc3, Fd2⟩ (Fh.W WW1) (Ff.W WW1) (Fg.W WW1) hFd hGd hne1 hne2 w_tt hn2) ?_
    intro tg kt
    show Steps _ _ _ (TT.setTop (mkF m 360 (lA17 p1 p2 p3 p4 bT bF bG nn tF tG tH tA fa ff fg dd fh tt) [])) _
    refine XS.iload X0.here hx rfl (hb hby at_360) rfl ?_
    refine XS.iconst X0.here hx rfl (hb hby at_362) ?_
    refine XS.icmpNo X0.here hx rfl (hb hby at_363) rfl (flt (hnj : ¬ (nn < (4 : Int32)))).1 ?_
    refine XS.iload X0.here hx rfl (hb hby at_366) rfl ?_
    show Steps _ _ _ (TT.setTop (mkF m 368 (lA17 p1 p2 p3 p4 bT bF bG nn tF tG tH tA fa ff fg dd fh tt) [(.int (1 : Int32))])) _
    refine XS.aload X0.here hx rfl (hb hby at_368) rfl rfl ?_
    refine XS.aload X0.here hx rfl (hb hby at_370) rfl rfl ?_
    refine st1.trans ?_
    show Steps _ _ _ (T1.setTop (mkF m 375 (lA17 p1 p2 p3 p4 bT bF bG nn tF tG tH tA fa ff fg dd fh tt) [(.int (own_rf (3 : Int32))), (.int (1 : Int32))])) _
    rw [(by decide : own_rf (3 : Int32) = (0 : Int32))]
    show Steps _ _ _ (T1.setTop (mkF m 375 (lA17 p1 p2 p3 p4 bT bF bG nn tF tG tH tA fa ff fg dd fh tt) [(.int (0 : Int32)), (.int (1 : Int32))])) _
    refine XS.ifNo X1.here hx rfl (hb hby at_375) rfl ((if0 _ _).trans (teq (rfl : (0 : Int32) = (0 : Int32))).2) ?_
    refine XS.iconst X1.here hx rfl (hb hby at_378) ?_
    refine XS.goto X1.here hx rfl (pc0 := 379) (pc' := 383) rfl (hb hby at_379) (by decide) (by decide) ?_
    refine XS.iand X1.here hx rfl (hb hby at_383) rfl ?_
    show Steps _ _ _ (T1.setTop (mkF m 384 (lA17 p1 p2 p3 p4 bT bF bG nn tF tG tH tA fa ff fg dd fh tt) [(.int ((1 : Int32) &&& (1 : Int32)))])) _
    rw [(by decide : ((1 : Int32) &&& (1 : Int32)) = (1 : Int32))]
    show Steps _ _ _ (T1.setTop (mkF m 384 (lA17 p1 p2 p3 p4 bT bF bG nn tF tG tH tA fa ff fg dd fh tt) [(.int (1 : Int32))])) _
    refine XS.istore X1.here hx rfl (hb hby at_384) rfl (l' := (lA17 p1 p2 p3 p4 bT bF bG nn tF tG tH tA fa ff fg dd fh tt)) rfl ?_
    show Steps _ _ _ (T1.setTop (mkF m 386 (lA17 p1 p2 p3 p4 bT bF bG nn tF tG tH tA fa ff fg dd fh tt) [])) _
    exact kt
theorem own_K2_3 {p : Program} {l : Launch} {e : Env} {s : State} {m : MethodId} {args : Array Value} {below : List Frame} {meth : Method} {c : Code} {s₁ : State} {SS : Spec} {Z : State} {a0 : Array Value} {TT : State} {vm : Vm} {LL : List Loc} {ks : Nat} {p1 : Int32} {p2 : Int32} {p3 : Int32} {p4 : Int32} {bT : Int32} {bF : Int32} {bG : Int32} {nn : Int32} {tF : Addr} {tG : Addr} {tH : Addr} {tA : Addr} {fa : Addr} {ff : Addr} {fg : Addr} {dd : Int32} {fh : Addr} {tt : Addr} {uF : Int32} {uG : Int32} {uH : Int32} {dF : Value} {dG : Value} {h0 : Heap} {nb : Nat} {cs : Int32} {d1 : Addr} {d2 : Addr} {kd1 : ClassId} {kd2 : ClassId} {vo : List Value} {vt : List Value}
    (hw : ∀ d ∈ tables_1, d.before a0 Z = true)
    (Bd : BodyLoose p l x SS code maxLocals ret e s m args below meth c s₁)
    (hml : c.maxLocals = 22)
    (X0 : Stand p l e room_1 (s.setVm vm) m args below meth c TT LL 30 1500)
    (hS : s.Since vm ks)
    (hk0 : ks ≤ TT.heap.size)
    (hZ : Z.Warmed39 (s.setVm vm).vm)
    (hown : (s.setVm vm).vm.findClass "com/example/hemotide/hemotide/link/TransferRefusePinLaw" = some m.cls)
    (N0 : Fr s.heap.size LL)
    (Z0 : s.heap.size ≤ TT.heap.size)
    (IBs : IB Z vm [own_T305])
    (hh : s.heap = h0)
    (hold : ∀ (b : Addr) (cl : Cell), Z.heap[b]? = some cl → h0[b]? = some cl)
    (HC : ∀ q ∈ consts_1, Jvm.Lit.constHeld Z q.1 q.2)
    (HCW : Jvm.Lit.compactW.before a0 Z = true)
    (W0 : own_W h0.size h0 TT.heap)
    (hnb : h0.size ≤ nb)
    (SC : own_S Z h0 h0.size "java/lang/String" "COMPACT_STRINGS" "Z" (.int cs))
    (hcs : ¬ (cs = (0 : Int32)))
    (SO : own_S Z h0 h0.size "java/lang/Integer" "DigitOnes" "[B" (.ref d1))
    (ST : own_S Z h0 h0.size "java/lang/Integer" "DigitTens" "[B" (.ref d2))
    (VO : Arv Z h0 d1 kd1 .byte (100 : Int32) vo (.int (0 : Int32)))
    (VT : Arv Z h0 d2 kd2 .byte (100 : Int32) vt (.int (0 : Int32)))
    (hd1 : d1 < h0.size)
    (hd2 : d2 < h0.size)
    (Ht : own_trf Z TT.heap tt (own_aw (own_aw .null dF ff) dG fg) .null (2 : Int32) dd)
    (Fh : own_frm Z TT.heap nb fh (4 : Int64) (30 : Int64) dd tH uH .null)
    (Ff : own_frm Z TT.heap nb ff (2 : Int64) (10 : Int64) p2 tF uF dF)
    (Fg : own_frm Z TT.heap nb fg (3 : Int64) (20 : Int64) p3 tG uG dG)
    (hFd : (bF = (0 : Int32) ∧ dF = .null) ∨ (¬ bF = (0 : Int32) ∧ ∃ ba : Addr, dF = .ref ba))
    (hGd : (bG = (0 : Int32) ∧ dG = .null) ∨ (¬ bG = (0 : Int32) ∧ ∃ ba : Addr, dG = .ref ba))
    (hne1 : tH ≠ tF)
    (hne2 : tH ≠ tG)
    (w_tt : nb ≤ tt)
    (hn2 : ¬ nn < (2 : Int32)) : own_End p e below s TT (mkF m 334 (lA17 p1 p2 p3 p4 bT bF bG nn tF tG tH tA fa ff fg dd fh tt) []) := by
  have hx := Bd.exec
  have hZa := hZ
  have howna := hown
  have hby : c.code = code := Bd.bytes
  have own_wS : ∀ d ∈ Bundle.stringAtoms, d.before a0 Z = true := own_wSof hw
  obtain ⟨n0, hn0⟩ : ∃ z, z = s.heap.size := ⟨_, rfl⟩
  rw [← hn0] at N0 Z0
  obtain ⟨EtT, FtA, FtR, FtC, FtD⟩ := id Ht
  have g_tt : n0 ≤ tt := Nat.le_trans (Nat.le_of_eq (by rw [hn0, hh])) (Nat.le_trans hnb w_tt)
  obtain ⟨Eg, Pg, Og, Mg, Xg, Dg, Sg, ltg⟩ := id Fg
  have hdG : dG.isRef = true := by rcases hGd with ⟨-, q⟩ | ⟨-, _, q⟩ <;> rw [q] <;> rfl
  by_cases hnj : nn < (3 : Int32)
  · refine own_End.by (g' := (mkF m 450 (lA17 p1 p2 p3 p4 bT bF bG nn tF tG tH tA fa ff fg dd fh tt) [])) (own_K3 hw Bd hml (X0.more (by decide : 30 ≤ 30) (by decide : 1500 ≤ 1500)) hS hk0 hZ hown (hn0 ▸ N0) (hn0 ▸ Z0) IBs hh hold HC HCW (own_W.trans W0 (own_W.mono hnb (own_W.refl nb TT.heap))) hnb SC hcs SO ST VO VT hd1 hd2 Ht (Fh.W (own_W.refl nb TT.heap)) (Ff.W (own_W.refl nb TT.heap)) (Fg.W (own_W.refl nb TT.heap)) hFd hGd hne1 hne2 (Or.inr ⟨hn2, rfl⟩)) ?_
    intro tg kt
    show Steps _ _ _ (TT.setTop (mkF m 334 (lA17 p1 p2 p3 p4 bT bF bG nn tF tG tH tA fa ff fg dd fh tt) [])) _
    refine XS.iload X0.here hx rfl (hb hby at_334) rfl ?_
    refine XS.iconst X0.here hx rfl (hb hby at_336) ?_
    refine XS.icmpYes X0.here hx rfl (pc0 := 337) (pc' := 360) rfl (hb hby at_337) rfl (tlt (hnj : nn < (3 : Int32))).1 (by decide) (by decide) ?_
    refine XS.iload X0.here hx rfl (hb hby at_360) rfl ?_
    show Steps _ _ _ (TT.setTop (mkF m 362 (lA17 p1 p2 p3 p4 bT bF bG nn tF tG tH tA fa ff fg dd fh tt) [(.int nn)])) _
    refine XS.iconst X0.here hx rfl (hb hby at_362) ?_
    refine XS.icmpYes X0.here hx rfl (pc0 := 363) (pc' := 386) rfl (hb hby at_363) rfl (tlt (own_lt hnj (by decide) : nn < (4 : Int32))).1 (by decide) (by decide) ?_
    refine XS.iload X0.here hx rfl (hb hby at_386) rfl ?_
    refine XS.iconst X0.here hx rfl (hb hby at_388) ?_
    show Steps _ _ _ (TT.setTop (mkF m 389 (lA17 p1 p2 p3 p4 bT bF bG nn tF tG tH tA fa ff fg dd fh tt) [(.int (5 : Int32)), (.int nn)])) _
    refine XS.icmpYes X0.here hx rfl (pc0 := 389) (pc' := 412) rfl (hb hby at_389) rfl (tlt (own_lt hnj (by decide) : nn < (5 : Int32))).1 (by decide) (by decide) ?_
    refine XS.iload X0.here hx rfl (hb hby at_412) rfl ?_
    refine XS.bipush X0.here hx rfl (hb hby at_414) ?_
    refine XS.icmpYes X0.here hx rfl (pc0 := 416) (pc' := 431) rfl (hb hby at_416) rfl (tlt (own_lt hnj (by decide) : nn < (6 : Int32))).1 (by decide) (by decide) ?_
    show Steps _ _ _ (TT.setTop (mkF m 431 (lA17 p1 p2 p3 p4 bT bF bG nn tF tG tH tA fa ff fg dd fh tt) [])) _
    refine XS.iload X0.here hx rfl (hb hby at_431) rfl ?_
    refine XS.bipush X0.here hx rfl (hb hby at_433) ?_
    refine XS.icmpYes X0.here hx rfl (pc0 := 435) (pc' := 450) rfl (hb hby at_435) rfl (tlt (own_lt hnj (by decide) : nn < (7 : Int32))).1 (by decide) (by decide) ?_
    show Steps _ _ _ (TT.setTop (mkF m 450 (lA17 p1 p2 p3 p4 bT bF bG nn tF tG tH tA fa ff fg dd fh tt) [])) _
    exact kt
  · obtain ⟨cq1, kq1, q1a, q1b, q1c⟩ := isOf hZ rfl EtT
    obtain ⟨_, _, ⟨T1, L1, k1, n1⟩, -, X1, ⟨Lc1, hQ1, l1, y1, z1⟩, st1⟩ := X0.virtualBack hx (y := mn11) (z := mn11) hown (mvT hZ (wJ hw 101 rfl)) (mvT hZ (wJ hw 102 rfl)) (notFace_of_selects (args := #[]) (mvT hZ (wJ hw 104 rfl))) (mvT hZ (wJ hw 104 rfl)) (mvT hZ (wJ hw 103 rfl)) (by decide) (backOf (W := 1) (own_refuse l Z a0 hw [] tt fg (own_aw (own_aw .null dF ff) dG fg) .null (2 : Int32) dd dG TT.heap n0 Z0 EtT FtA FtR FtC FtD Eg Dg (own_awR (own_awR rfl)) hdG g_tt) hZ (wJ hw 105 rfl) (wJ hw 65 rfl) (by decide) (by decide)) q1a q1c (g := (mkF m 346 (lA17 p1 p2 p3 p4 bT bF bG nn tF tG tH tA fa ff fg dd fh tt) [(.ref fg), (.ref tt), (.int (1 : Int32))])) rfl (by rw [hml]; rfl) (Steps.refl _) (argsL := [(.ref fg)]) (rest := [(.int (1 : Int32))]) (lenOf pd__Lcom_example_hemotide_hemotide_link_Frame__Z rfl) rfl (by show 2 * 0 + _ ≤ _; exact Nat.le_of_eq rfl) (hb hby at_346) (fun _ _ => ⟨rfl, rfl, (by decide : 30 + 0 ≤ _), (by decide : 1500 + 0 ≤ _)⟩)
    dsimp only [Pt.U, Pt.locs, Pt.cells, Pt.slots] at X1 l1 y1 z1 st1 hQ1
    replace X1 := X1.more (Nat.le_of_eq (show k1 = 30 from y1)) (Nat.le_of_eq (show n1 = 1500 from z1))
    obtain ⟨rfl, Nq1, Kq1, Fa2, Fr2, Fc2, Fd2⟩ := hQ1
    have Z1 : n0 ≤ T1.heap.size := Nat.le_trans Z0 Kq1.1
    have hk1 : ks ≤ T1.heap.size := Nat.le_trans hk0 Kq1.1
    have WW1 : own_W nb TT.heap T1.heap := own_W.keep (own_W.refl nb TT.heap) Kq1 (allS w_tt all0)
    have N1 : Fr n0 L1 := by rw [l1]; exact Fr.app N0 Nq1
    have Fc3 : Fld Z T1.heap tt "com/example/hemotide/hemotide/link/Transfer" "refusedInARow" "I" (.int (3 : Int32)) := (by decide : ((2 : Int32) + (1 : Int32)) = (3 : Int32)) ▸ Fc2
    have Fa3 := Eq.mp (congrArg (fun z => Fld Z T1.heap tt "com/example/hemotide/hemotide/link/Transfer" "awaited" "Lcom/example/hemotide/hemotide/link/Frame;" z) (own_awI (aw := (own_aw .null dF ff)) (dv := dG) (x := fg))) Fa2
    have fc2 := (EtT.keep Kq1)
    refine own_End.by (g' := (mkF m 360 (lA17 p1 p2 p3 p4 bT bF bG nn tF tG tH tA fa ff fg dd fh tt) [])) (own_K2_4 hw Bd hml (X1.more (by decide : 30 ≤ 30) (by decide : 1500 ≤ 1500)) hS hk1 hZ hown (hn0 ▸ N1) (hn0 ▸ Z1) IBs hh hold HC HCW (own_W.trans W0 (own_W.mono hnb WW1)) hnb SC hcs SO ST VO VT hd1 hd2 ⟨fc2, Fa3, Fr2, Fc3, Fd2⟩ (Fh.W WW1) (Ff.W WW1) (Fg.W WW1) hFd hGd hne1 hne2 w_tt hn2) ?_
    intro tg kt
    show Steps _ _ _ (TT.setTop (mkF m 334 (lA17 p1 p2 p3 p4 bT bF bG nn tF tG tH tA fa ff fg dd fh tt) [])) _
    refine XS.iload X0.here hx rfl (hb hby at_334) rfl ?_
    refine XS.iconst X0.here hx rfl (hb hby at_336) ?_
    refine XS.icmpNo X0.here hx rfl (hb hby at_337) rfl (flt (hnj : ¬ (nn < (3 : Int32)))).1 ?_
    refine XS.iload X0.here hx rfl (hb hby at_340) rfl ?_
    show Steps _ _ _ (TT.setTop (mkF m 342 (lA17 p1 p2 p3 p4 bT bF bG nn tF tG tH tA fa ff fg dd fh tt) [(.int (1 : Int32))])) _
    refine XS.aload X0.here hx rfl (hb hby at_342) rfl rfl ?_
    refine XS.aload X0.here hx rfl (hb hby at_344) rfl rfl ?_
    refine st1.trans ?_
    show Steps _ _ _ (T1.setTop (mkF m 349 (lA17 p1 p2 p3 p4 bT bF bG nn tF tG tH tA fa ff fg dd fh tt) [(.int (own_rf (2 : Int32))), (.int (1 : Int32))])) _
    rw [(by decide : own_rf (2 : Int32) = (0 : Int32))]
    show Steps _ _ _ (T1.setTop (mkF m 349 (lA17 p1 p2 p3 p4 bT bF bG nn tF tG tH tA fa ff fg dd fh tt) [(.int (0 : Int32)), (.int (1 : Int32))])) _
    refine XS.ifNo X1.here hx rfl (hb hby at_349) rfl ((if0 _ _).trans (teq (rfl : (0 : Int32) = (0 : Int32))).2) ?_
    refine XS.iconst X1.here hx rfl (hb hby at_352) ?_
    refine XS.goto X1.here hx rfl (pc0 := 353) (pc' := 357) rfl (hb hby at_353) (by decide) (by decide) ?_
    refine XS.iand X1.here hx rfl (hb hby at_357) rfl ?_
    show Steps _ _ _ (T1.setTop (mkF m 358 (lA17 p1 p2 p3 p4 bT bF bG nn tF tG tH tA fa ff fg dd fh tt) [(.int ((1 : Int32) &&& (1 : Int32)))])) _
    rw [(by decide : ((1 : Int32) &&& (1 : Int32)) = (1 : Int32))]
    show Steps _ _ _ (T1.setTop (mkF m 358 (lA17 p1 p2 p3 p4 bT bF bG nn tF tG tH tA fa ff fg dd fh tt) [(.int (1 : Int32))])) _
    refine XS.istore X1.here hx rfl (hb hby at_358) rfl (l' := (lA17 p1 p2 p3 p4 bT bF bG nn tF tG tH tA fa ff fg dd fh tt)) rfl ?_
    show Steps _ _ _ (T1.setTop (mkF m 360 (lA17 p1 p2 p3 p4 bT bF bG nn tF tG tH tA fa ff fg dd fh tt) [])) _
    exact kt
theorem own_K2_2 {p : Program} {l : Launch} {e : Env} {s : State} {m : MethodId} {args : Array Value} {below : List Frame} {meth : Method} {c : Code} {s₁ : State} {SS : Spec} {Z : State} {a0 : Array Value} {TT : State} {vm : Vm} {LL : List Loc} {ks : Nat} {p1 : Int32} {p2 : Int32} {p3 : Int32} {p4 : Int32} {bT : Int32} {bF : Int32} {bG : Int32} {nn : Int32} {tF : Addr} {tG : Addr} {tH : Addr} {tA : Addr} {fa : Addr} {ff : Addr} {fg : Addr} {dd : Int32} {fh : Addr} {tt : Addr} {uF : Int32} {uG : Int32} {uH : Int32} {dF : Value} {dG : Value} {h0 : Heap} {nb : Nat} {cs : Int32} {d1 : Addr} {d2 : Addr} {kd1 : ClassId} {kd2 : ClassId} {vo : List Value} {vt : List Value}
    (hw : ∀ d ∈ tables_1, d.before a0 Z = true)
    (Bd : BodyLoose p l x SS code maxLocals ret e s m args below meth c s₁)
    (hml : c.maxLocals = 22)
    (X0 : Stand p l e room_1 (s.setVm vm) m args below meth c TT LL 30 1500)
    (hS : s.Since vm ks)
    (hk0 : ks ≤ TT.heap.size)
    (hZ : Z.Warmed39 (s.setVm vm).vm)
    (hown : (s.setVm vm).vm.findClass "com/example/hemotide/hemotide/link/TransferRefusePinLaw" = some m.cls)
    (N0 : Fr s.heap.size LL)
    (Z0 : s.heap.size ≤ TT.heap.size)
    (IBs : IB Z vm [own_T305])
    (hh : s.heap = h0)
    (hold : ∀ (b : Addr) (cl : Cell), Z.heap[b]? = some cl → h0[b]? = some cl)
    (HC : ∀ q ∈ consts_1, Jvm.Lit.constHeld Z q.1 q.2)
    (HCW : Jvm.Lit.compactW.before a0 Z = true)
    (W0 : own_W h0.size h0 TT.heap)
    (hnb : h0.size ≤ nb)
    (SC : own_S Z h0 h0.size "java/lang/String" "COMPACT_STRINGS" "Z" (.int cs))
    (hcs : ¬ (cs = (0 : Int32)))
    (SO : own_S Z h0 h0.size "java/lang/Integer" "DigitOnes" "[B" (.ref d1))
    (ST : own_S Z h0 h0.size "java/lang/Integer" "DigitTens" "[B" (.ref d2))
    (VO : Arv Z h0 d1 kd1 .byte (100 : Int32) vo (.int (0 : Int32)))
    (VT : Arv Z h0 d2 kd2 .byte (100 : Int32) vt (.int (0 : Int32)))
    (hd1 : d1 < h0.size)
    (hd2 : d2 < h0.size)
    (Ht : own_trf Z TT.heap tt (own_aw .null dF ff) .null (1 : Int32) dd)
    (Fh : own_frm Z TT.heap nb fh (4 : Int64) (30 : Int64) dd tH uH .null)
    (Ff : own_frm Z TT.heap nb ff (2 : Int64) (10 : Int64) p2 tF uF dF)
    (Fg : own_frm Z TT.heap nb fg (3 : Int64) (20 : Int64) p3 tG uG dG)
    (hFd : (bF = (0 : Int32) ∧ dF = .null) ∨ (¬ bF = (0 : Int32) ∧ ∃ ba : Addr, dF = .ref ba))
    (hGd : (bG = (0 : Int32) ∧ dG = .null) ∨ (¬ bG = (0 : Int32) ∧ ∃ ba : Addr, dG = .ref ba))
    (hne1 : tH ≠ tF)
    (hne2 : tH ≠ tG)
    (w_tt : nb ≤ tt) : own_End p e below s TT (mkF m 308 (lA17 p1 p2 p3 p4 bT bF bG nn tF tG tH tA fa ff fg dd fh tt) []) := by
  have hx := Bd.exec
  have hZa := hZ
  have howna := hown
  have hby : c.code = code := Bd.bytes
  have own_wS : ∀ d ∈ Bundle.stringAtoms, d.before a0 Z = true := own_wSof hw
  obtain ⟨n0, hn0⟩ : ∃ z, z = s.heap.size := ⟨_, rfl⟩
  rw [← hn0] at N0 Z0
  obtain ⟨EtT, FtA, FtR, FtC, FtD⟩ := id Ht
  have g_tt : n0 ≤ tt := Nat.le_trans (Nat.le_of_eq (by rw [hn0, hh])) (Nat.le_trans hnb w_tt)
  obtain ⟨Eg, Pg, Og, Mg, Xg, Dg, Sg, ltg⟩ := id Fg
  have hdG : dG.isRef = true := by rcases hGd with ⟨-, q⟩ | ⟨-, _, q⟩ <;> rw [q] <;> rfl
  by_cases hnj : nn < (2 : Int32)
  · refine own_End.by (g' := (mkF m 450 (lA17 p1 p2 p3 p4 bT bF bG nn tF tG tH tA fa ff fg dd fh tt) [])) (own_K3 hw Bd hml (X0.more (by decide : 30 ≤ 30) (by decide : 1500 ≤ 1500)) hS hk0 hZ hown (hn0 ▸ N0) (hn0 ▸ Z0) IBs hh hold HC HCW (own_W.trans W0 (own_W.mono hnb (own_W.refl nb TT.heap))) hnb SC hcs SO ST VO VT hd1 hd2 Ht (Fh.W (own_W.refl nb TT.heap)) (Ff.W (own_W.refl nb TT.heap)) (Fg.W (own_W.refl nb TT.heap)) hFd hGd hne1 hne2 (Or.inl ⟨hnj, rfl⟩)) ?_
    intro tg kt
    show Steps _ _ _ (TT.setTop (mkF m 308 (lA17 p1 p2 p3 p4 bT bF bG nn tF tG tH tA fa ff fg dd fh tt) [])) _
    refine XS.iload X0.here hx rfl (hb hby at_308) rfl ?_
    refine XS.iconst X0.here hx rfl (hb hby at_310) ?_
    refine XS.icmpYes X0.here hx rfl (pc0 := 311) (pc' := 334) rfl (hb hby at_311) rfl (tlt (hnj : nn < (2 : Int32))).1 (by decide) (by decide) ?_
    refine XS.iload X0.here hx rfl (hb hby at_334) rfl ?_
    show Steps _ _ _ (TT.setTop (mkF m 336 (lA17 p1 p2 p3 p4 bT bF bG nn tF tG tH tA fa ff fg dd fh tt) [(.int nn)])) _
    refine XS.iconst X0.here hx rfl (hb hby at_336) ?_
    refine XS.icmpYes X0.here hx rfl (pc0 := 337) (pc' := 360) rfl (hb hby at_337) rfl (tlt (own_lt hnj (by decide) : nn < (3 : Int32))).1 (by decide) (by decide) ?_
    refine XS.iload X0.here hx rfl (hb hby at_360) rfl ?_
    refine XS.iconst X0.here hx rfl (hb hby at_362) ?_
    show Steps _ _ _ (TT.setTop (mkF m 363 (lA17 p1 p2 p3 p4 bT bF bG nn tF tG tH tA fa ff fg dd fh tt) [(.int (4 : Int32)), (.int nn)])) _
    refine XS.icmpYes X0.here hx rfl (pc0 := 363) (pc' := 386) rfl (hb hby at_363) rfl (tlt (own_lt hnj (by decide) : nn < (4 : Int32))).1 (by decide) (by decide) ?_
    refine XS.iload X0.here hx rfl (hb hby at_386) rfl ?_
    refine XS.iconst X0.here hx rfl (hb hby at_388) ?_
    refine XS.icmpYes X0.here hx rfl (pc0 := 389) (pc' := 412) rfl (hb hby at_389) rfl (tlt (own_lt hnj (by decide) : nn < (5 : Int32))).1 (by decide) (by decide) ?_
    show Steps _ _ _ (TT.setTop (mkF m 412 (lA17 p1 p2 p3 p4 bT bF bG nn tF tG tH tA fa ff fg dd fh tt) [])) _
    refine XS.iload X0.here hx rfl (hb hby at_412) rfl ?_
    refine XS.bipush X0.here hx rfl (hb hby at_414) ?_
    refine XS.icmpYes X0.here hx rfl (pc0 := 416) (pc' := 431) rfl (hb hby at_416) rfl (tlt (own_lt hnj (by decide) : nn < (6 : Int32))).1 (by decide) (by decide) ?_
    refine XS.iload X0.here hx rfl (hb hby at_431) rfl ?_
    show Steps _ _ _ (TT.setTop (mkF m 433 (lA17 p1 p2 p3 p4 bT bF bG nn tF tG tH tA fa ff fg dd fh tt) [(.int nn)])) _
    refine XS.bipush X0.here hx rfl (hb hby at_433) ?_
    refine XS.icmpYes X0.here hx rfl (pc0 := 435) (pc' := 450) rfl (hb hby at_435) rfl (tlt (own_lt hnj (by decide) : nn < (7 : Int32))).1 (by decide) (by decide) ?_
    show Steps _ _ _ (TT.setTop (mkF m 450 (lA17 p1 p2 p3 p4 bT bF bG nn tF tG tH tA fa ff fg dd fh tt) [])) _
    exact kt
  · obtain ⟨cq1, kq1, q1a, q1b, q1c⟩ := isOf hZ rfl EtT
    obtain ⟨_, _, ⟨T1, L1, k1, n1⟩, -, X1, ⟨Lc1, hQ1, l1, y1, z1⟩, st1⟩ := X0.virtualBack hx (y := mn11) (z := mn11) hown (mvT hZ (wJ hw 101 rfl)) (mvT hZ (wJ hw 102 rfl)) (notFace_of_selects (args := #[]) (mvT hZ (wJ hw 104 rfl))) (mvT hZ (wJ hw 104 rfl)) (mvT hZ (wJ hw 103 rfl)) (by decide) (backOf (W := 1) (own_refuse l Z a0 hw [] tt fg (own_aw .null dF ff) .null (1 : Int32) dd dG TT.heap n0 Z0 EtT FtA FtR FtC FtD Eg Dg (own_awR rfl) hdG g_tt) hZ (wJ hw 105 rfl) (wJ hw 65 rfl) (by decide) (by decide)) q1a q1c (g := (mkF m 320 (lA17 p1 p2 p3 p4 bT bF bG nn tF tG tH tA fa ff fg dd fh tt) [(.ref fg), (.ref tt), (.int (1 : Int32))])) rfl (by rw [hml]; rfl) (Steps.refl _) (argsL := [(.ref fg)]) (rest := [(.int (1 : Int32))]) (lenOf pd__Lcom_example_hemotide_hemotide_link_Frame__Z rfl) rfl (by show 2 * 0 + _ ≤ _; exact Nat.le_of_eq rfl) (hb hby at_320) (fun _ _ => ⟨rfl, rfl, (by decide : 30 + 0 ≤ _), (by decide : 1500 + 0 ≤ _)⟩)
    dsimp only [Pt.U, Pt.locs, Pt.cells, Pt.slots] at X1 l1 y1 z1 st1 hQ1
    replace X1 := X1.more (Nat.le_of_eq (show k1 = 30 from y1)) (Nat.le_of_eq (show n1 = 1500 from z1))
    obtain ⟨rfl, Nq1, Kq1, Fa2, Fr2, Fc2, Fd2⟩ := hQ1
    have Z1 : n0 ≤ T1.heap.size := Nat.le_trans Z0 Kq1.1
    have hk1 : ks ≤ T1.heap.size := Nat.le_trans hk0 Kq1.1
    have WW1 : own_W nb TT.heap T1.heap := own_W.keep (own_W.refl nb TT.heap) Kq1 (allS w_tt all0)
    have N1 : Fr n0 L1 := by rw [l1]; exact Fr.app N0 Nq1
    have Fc3 : Fld Z T1.heap tt "com/example/hemotide/hemotide/link/Transfer" "refusedInARow" "I" (.int (2 : Int32)) := (by decide : ((1 : Int32) + (1 : Int32)) = (2 : Int32)) ▸ Fc2
    have fc2 := (EtT.keep Kq1)
    refine own_End.by (g' := (mkF m 334 (lA17 p1 p2 p3 p4 bT bF bG nn tF tG tH tA fa ff fg dd fh tt) [])) (own_K2_3 hw Bd hml (X1.more (by decide : 30 ≤ 30) (by decide : 1500 ≤ 1500)) hS hk1 hZ hown (hn0 ▸ N1) (hn0 ▸ Z1) IBs hh hold HC HCW (own_W.trans W0 (own_W.mono hnb WW1)) hnb SC hcs SO ST VO VT hd1 hd2 ⟨fc2, Fa2, Fr2, Fc3, Fd2⟩ (Fh.W WW1) (Ff.W WW1) (Fg.W WW1) hFd hGd hne1 hne2 w_tt hnj) ?_
    intro tg kt
    show Steps _ _ _ (TT.setTop (mkF m 308 (lA17 p1 p2 p3 p4 bT bF bG nn tF tG tH tA fa ff fg dd fh tt) [])) _
    refine XS.iload X0.here hx rfl (hb hby at_308) rfl ?_
    refine XS.iconst X0.here hx rfl (hb hby at_310) ?_
    refine XS.icmpNo X0.here hx rfl (hb hby at_311) rfl (flt (hnj : ¬ (nn < (2 : Int32)))).1 ?_
    refine XS.iload X0.here hx rfl (hb hby at_314) rfl ?_
    show Steps _ _ _ (TT.setTop (mkF m 316 (lA17 p1 p2 p3 p4 bT bF bG nn tF tG tH tA fa ff fg dd fh tt) [(.int (1 : Int32))])) _
    refine XS.aload X0.here hx rfl (hb hby at_316) rfl rfl ?_
    refine XS.aload X0.here hx rfl (hb hby at_318) rfl rfl ?_
    refine st1.trans ?_
    show Steps _ _ _ (T1.setTop (mkF m 323 (lA17 p1 p2 p3 p4 bT bF bG nn tF tG tH tA fa ff fg dd fh tt) [(.int (own_rf (1 : Int32))), (.int (1 : Int32))])) _
    rw [(by decide : own_rf (1 : Int32) = (0 : Int32))]
    show Steps _ _ _ (T1.setTop (mkF m 323 (lA17 p1 p2 p3 p4 bT bF bG nn tF tG tH tA fa ff fg dd fh tt) [(.int (0 : Int32)), (.int (1 : Int32))])) _
    refine XS.ifNo X1.here hx rfl (hb hby at_323) rfl ((if0 _ _).trans (teq (rfl : (0 : Int32) = (0 : Int32))).2) ?_
    refine XS.iconst X1.here hx rfl (hb hby at_326) ?_
    refine XS.goto X1.here hx rfl (pc0 := 327) (pc' := 331) rfl (hb hby at_327) (by decide) (by decide) ?_
    refine XS.iand X1.here hx rfl (hb hby at_331) rfl ?_
    show Steps _ _ _ (T1.setTop (mkF m 332 (lA17 p1 p2 p3 p4 bT bF bG nn tF tG tH tA fa ff fg dd fh tt) [(.int ((1 : Int32) &&& (1 : Int32)))])) _
    rw [(by decide : ((1 : Int32) &&& (1 : Int32)) = (1 : Int32))]
    show Steps _ _ _ (T1.setTop (mkF m 332 (lA17 p1 p2 p3 p4 bT bF bG nn tF tG tH tA fa ff fg dd fh tt) [(.int (1 : Int32))])) _
    refine XS.istore X1.here hx rfl (hb hby at_332) rfl (l' := (lA17 p1 p2 p3 p4 bT bF bG nn tF tG tH tA fa ff fg dd fh tt)) rfl ?_
    show Steps _ _ _ (T1.setTop (mkF m 334 (lA17 p1 p2 p3 p4 bT bF bG nn tF tG tH tA fa ff fg dd fh tt) [])) _
    exact kt
theorem own_K1b {p : Program} {l : Launch} {e : Env} {s : State} {m : MethodId} {args : Array Value} {below : List Frame} {meth : Method} {c : Code} {s₁ : State} {SS : Spec} {Z : State} {a0 : Array Value} {TT : State} {vm : Vm} {LL : List Loc} {ks : Nat} {p1 : Int32} {p2 : Int32} {p3 : Int32} {p4 : Int32} {bT : Int32} {bF : Int32} {bG : Int32} {nn : Int32} {tF : Addr} {tG : Addr} {tH : Addr} {tA : Addr} {fa : Addr} {ff : Addr} {fg : Addr} {dd : Int32} {fh : Addr} {tt : Addr} {uF : Int32} {uG : Int32} {uH : Int32} {dF : Value} {dG : Value} {rp : Value} {h0 : Heap} {nb : Nat} {cs : Int32} {d1 : Addr} {d2 : Addr} {kd1 : ClassId} {kd2 : ClassId} {vo : List Value} {vt : List Value}
    (hw : ∀ d ∈ tables_1, d.before a0 Z = true)
    (Bd : BodyLoose p l x SS code maxLocals ret e s m args below meth c s₁)
    (hml : c.maxLocals = 22)
    (X0 : Stand p l e room_1 (s.setVm vm) m args below meth c TT LL 30 1500)
    (hS : s.Since vm ks)
    (hk0 : ks ≤ TT.heap.size)
    (hZ : Z.Warmed39 (s.setVm vm).vm)
    (hown : (s.setVm vm).vm.findClass "com/example/hemotide/hemotide/link/TransferRefusePinLaw" = some m.cls)
    (N0 : Fr s.heap.size LL)
    (Z0 : s.heap.size ≤ TT.heap.size)
    (IBs : IB Z vm [own_T305])
    (hh : s.heap = h0)
    (hold : ∀ (b : Addr) (cl : Cell), Z.heap[b]? = some cl → h0[b]? = some cl)
    (HC : ∀ q ∈ consts_1, Jvm.Lit.constHeld Z q.1 q.2)
    (HCW : Jvm.Lit.compactW.before a0 Z = true)
    (W0 : own_W h0.size h0 TT.heap)
    (hnb : h0.size ≤ nb)
    (SC : own_S Z h0 h0.size "java/lang/String" "COMPACT_STRINGS" "Z" (.int cs))
    (hcs : ¬ (cs = (0 : Int32)))
    (SO : own_S Z h0 h0.size "java/lang/Integer" "DigitOnes" "[B" (.ref d1))
    (ST : own_S Z h0 h0.size "java/lang/Integer" "DigitTens" "[B" (.ref d2))
    (VO : Arv Z h0 d1 kd1 .byte (100 : Int32) vo (.int (0 : Int32)))
    (VT : Arv Z h0 d2 kd2 .byte (100 : Int32) vt (.int (0 : Int32)))
    (hd1 : d1 < h0.size)
    (hd2 : d2 < h0.size)
    (Ht : own_trf Z TT.heap tt .null rp (0 : Int32) dd)
    (Fh : own_frm Z TT.heap nb fh (4 : Int64) (30 : Int64) dd tH uH .null)
    (Ff : own_frm Z TT.heap nb ff (2 : Int64) (10 : Int64) p2 tF uF dF)
    (Fg : own_frm Z TT.heap nb fg (3 : Int64) (20 : Int64) p3 tG uG dG)
    (hFd : (bF = (0 : Int32) ∧ dF = .null) ∨ (¬ bF = (0 : Int32) ∧ ∃ ba : Addr, dF = .ref ba))
    (hGd : (bG = (0 : Int32) ∧ dG = .null) ∨ (¬ bG = (0 : Int32) ∧ ∃ ba : Addr, dG = .ref ba))
    (hne1 : tH ≠ tF)
    (hne2 : tH ≠ tG)
    (w_tt : nb ≤ tt) : own_End p e below s TT (mkF m 291 (lA16 p1 p2 p3 p4 bT bF bG nn tF tG tH tA fa ff fg dd fh tt) []) := by
  have hx := Bd.exec
  have hZa := hZ
  have howna := hown
  have hby : c.code = code := Bd.bytes
  have own_wS : ∀ d ∈ Bundle.stringAtoms, d.before a0 Z = true := own_wSof hw
  obtain ⟨n0, hn0⟩ : ∃ z, z = s.heap.size := ⟨_, rfl⟩
  rw [← hn0] at N0 Z0
  obtain ⟨EtT, FtA, FtR, FtC, FtD⟩ := id Ht
  have g_tt : n0 ≤ tt := Nat.le_trans (Nat.le_of_eq (by rw [hn0, hh])) (Nat.le_trans hnb w_tt)
  obtain ⟨Ef, Pf, Of, Mf, Xf, Df, Sf, ltf⟩ := id Ff
  have hdF : dF.isRef = true := by rcases hFd with ⟨-, q⟩ | ⟨-, _, q⟩ <;> rw [q] <;> rfl
  obtain ⟨cq1, kq1, q1a, q1b, q1c⟩ := isOf hZ rfl EtT
  obtain ⟨_, _, ⟨T1, L1, k1, n1⟩, -, X1, ⟨Lc1, hQ1, l1, y1, z1⟩, st1⟩ := X0.virtualBack hx (y := mn11) (z := mn11) hown (mvT hZ (wJ hw 101 rfl)) (mvT hZ (wJ hw 102 rfl)) (notFace_of_selects (args := #[]) (mvT hZ (wJ hw 104 rfl))) (mvT hZ (wJ hw 104 rfl)) (mvT hZ (wJ hw 103 rfl)) (by decide) (backOf (W := 0) (own_refuse l Z a0 hw [] tt ff .null rp (0 : Int32) dd dF TT.heap n0 Z0 EtT FtA FtR FtC FtD Ef Df rfl hdF g_tt) hZ (wJ hw 105 rfl) (wJ hw 65 rfl) (by decide) (by decide)) q1a q1c (g := (mkF m 295 (lA16 p1 p2 p3 p4 bT bF bG nn tF tG tH tA fa ff fg dd fh tt) [(.ref ff), (.ref tt)])) rfl (by rw [hml]; rfl) (Steps.refl _) (argsL := [(.ref ff)]) (rest := []) (lenOf pd__Lcom_example_hemotide_hemotide_link_Frame__Z rfl) rfl (by show 2 * 0 + _ ≤ _; exact Nat.le_of_eq rfl) (hb hby at_295) (fun _ _ => ⟨rfl, rfl, (by decide : 30 + 0 ≤ _), (by decide : 1500 + 0 ≤ _)⟩)
  dsimp only [Pt.U, Pt.locs, Pt.cells, Pt.slots] at X1 l1 y1 z1 st1 hQ1
  replace X1 := X1.more (Nat.le_of_eq (show k1 = 30 from y1)) (Nat.le_of_eq (show n1 = 1500 from z1))
  obtain ⟨rfl, Nq1, Kq1, Fa2, Fr2, Fc2, Fd2⟩ := hQ1
  have Z1 : n0 ≤ T1.heap.size := Nat.le_trans Z0 Kq1.1
  have hk1 : ks ≤ T1.heap.size := Nat.le_trans hk0 Kq1.1
  have WW1 : own_W nb TT.heap T1.heap := own_W.keep (own_W.refl nb TT.heap) Kq1 (allS w_tt all0)
  have N1 : Fr n0 L1 := by rw [l1]; exact Fr.app N0 Nq1
  have Fc3 : Fld Z T1.heap tt "com/example/hemotide/hemotide/link/Transfer" "refusedInARow" "I" (.int (1 : Int32)) := (by decide : ((0 : Int32) + (1 : Int32)) = (1 : Int32)) ▸ Fc2
  have fc2 := (EtT.keep Kq1)
  refine own_End.by (g' := (mkF m 308 (lA17 p1 p2 p3 p4 bT bF bG nn tF tG tH tA fa ff fg dd fh tt) [])) (own_K2_2 hw Bd hml (X1.more (by decide : 30 ≤ 30) (by decide : 1500 ≤ 1500)) hS hk1 hZ hown (hn0 ▸ N1) (hn0 ▸ Z1) IBs hh hold HC HCW (own_W.trans W0 (own_W.mono hnb WW1)) hnb SC hcs SO ST VO VT hd1 hd2 ⟨fc2, Fa2, Fr2, Fc3, Fd2⟩ (Fh.W WW1) (Ff.W WW1) (Fg.W WW1) hFd hGd hne1 hne2 w_tt) ?_
  intro tg kt
  show Steps _ _ _ (TT.setTop (mkF m 291 (lA16 p1 p2 p3 p4 bT bF bG nn tF tG tH tA fa ff fg dd fh tt) [])) _
  refine XS.aload X0.here hx rfl (hb hby at_291) rfl rfl ?_
  refine XS.aload X0.here hx rfl (hb hby at_293) rfl rfl ?_
  refine st1.trans ?_
  show Steps _ _ _ (T1.setTop (mkF m 298 (lA16 p1 p2 p3 p4 bT bF bG nn tF tG tH tA fa ff fg dd fh tt) [(.int (own_rf (0 : Int32)))])) _
  rw [(by decide : own_rf (0 : Int32) = (0 : Int32))]
  show Steps _ _ _ (T1.setTop (mkF m 298 (lA16 p1 p2 p3 p4 bT bF bG nn tF tG tH tA fa ff fg dd fh tt) [(.int (0 : Int32))])) _
  refine XS.ifNo X1.here hx rfl (hb hby at_298) rfl ((if0 _ _).trans (teq (rfl : (0 : Int32) = (0 : Int32))).2) ?_
  refine XS.iconst X1.here hx rfl (hb hby at_301) ?_
  refine XS.goto X1.here hx rfl (pc0 := 302) (pc' := 306) rfl (hb hby at_302) (by decide) (by decide) ?_
  refine XS.istore X1.here hx rfl (hb hby at_306) rfl (l' := (lA17 p1 p2 p3 p4 bT bF bG nn tF tG tH tA fa ff fg dd fh tt)) rfl ?_
  show Steps _ _ _ (T1.setTop (mkF m 308 (lA17 p1 p2 p3 p4 bT bF bG nn tF tG tH tA fa ff fg dd fh tt) [])) _
  exact kt
theorem own_K1 {p : Program} {l : Launch} {e : Env} {s : State} {m : MethodId} {args : Array Value} {below : List Frame} {meth : Method} {c : Code} {s₁ : State} {SS : Spec} {Z : State} {a0 : Array Value} {TT : State} {vm : Vm} {LL : List Loc} {ks : Nat} {p1 : Int32} {p2 : Int32} {p3 : Int32} {p4 : Int32} {bT : Int32} {bF : Int32} {bG : Int32} {nn : Int32} {tF : Addr} {tG : Addr} {tH : Addr} {tA : Addr} {fa : Addr} {ff : Addr} {fg : Addr} {dd : Int32} {fh : Addr} {tt : Addr} {uF : Int32} {uG : Int32} {uH : Int32} {uA : Int32} {dF : Value} {dG : Value} {asm : Addr} {h0 : Heap} {nb : Nat} {cs : Int32} {d1 : Addr} {d2 : Addr} {kd1 : ClassId} {kd2 : ClassId} {vo : List Value} {vt : List Value}
    (hw : ∀ d ∈ tables_1, d.before a0 Z = true)
    (Bd : BodyLoose p l x SS code maxLocals ret e s m args below meth c s₁)
    (hml : c.maxLocals = 22)
    (X0 : Stand p l e room_1 (s.setVm vm) m args below meth c TT LL 30 1500)
    (hS : s.Since vm ks)
    (hk0 : ks ≤ TT.heap.size)
    (hZ : Z.Warmed39 (s.setVm vm).vm)
    (hown : (s.setVm vm).vm.findClass "com/example/hemotide/hemotide/link/TransferRefusePinLaw" = some m.cls)
    (N0 : Fr s.heap.size LL)
    (Z0 : s.heap.size ≤ TT.heap.size)
    (IBs : IB Z vm [own_T305])
    (hh : s.heap = h0)
    (hold : ∀ (b : Addr) (cl : Cell), Z.heap[b]? = some cl → h0[b]? = some cl)
    (HC : ∀ q ∈ consts_1, Jvm.Lit.constHeld Z q.1 q.2)
    (HCW : Jvm.Lit.compactW.before a0 Z = true)
    (W0 : own_W h0.size h0 TT.heap)
    (hnb : h0.size ≤ nb)
    (SC : own_S Z h0 h0.size "java/lang/String" "COMPACT_STRINGS" "Z" (.int cs))
    (hcs : ¬ (cs = (0 : Int32)))
    (SO : own_S Z h0 h0.size "java/lang/Integer" "DigitOnes" "[B" (.ref d1))
    (ST : own_S Z h0 h0.size "java/lang/Integer" "DigitTens" "[B" (.ref d2))
    (VO : Arv Z h0 d1 kd1 .byte (100 : Int32) vo (.int (0 : Int32)))
    (VT : Arv Z h0 d2 kd2 .byte (100 : Int32) vt (.int (0 : Int32)))
    (hd1 : d1 < h0.size)
    (hd2 : d2 < h0.size)
    (Ht : own_trf Z TT.heap tt .null .null (0 : Int32) (1 : Int32))
    (Fh : own_frm Z TT.heap nb fh (4 : Int64) (30 : Int64) dd tH uH .null)
    (Ff : own_frm Z TT.heap nb ff (2 : Int64) (10 : Int64) p2 tF uF dF)
    (Fg : own_frm Z TT.heap nb fg (3 : Int64) (20 : Int64) p3 tG uG dG)
    (hFd : (bF = (0 : Int32) ∧ dF = .null) ∨ (¬ bF = (0 : Int32) ∧ ∃ ba : Addr, dF = .ref ba))
    (hGd : (bG = (0 : Int32) ∧ dG = .null) ∨ (¬ bG = (0 : Int32) ∧ ∃ ba : Addr, dG = .ref ba))
    (hne1 : tH ≠ tF)
    (hne2 : tH ≠ tG)
    (w_tt : nb ≤ tt)
    (hT : (bT = (0 : Int32) ∧ dd = (1 : Int32)) ∨ (¬ bT = (0 : Int32) ∧ dd = (2 : Int32)))
    (Fm : Fld Z TT.heap tt "com/example/hemotide/hemotide/link/Transfer" "assembler" "Lcom/example/hemotide/hemotide/link/MessageAssembler;" (.ref asm))
    (HA : own_asm Z TT.heap asm)
    (lta : tt < asm)
    (Fa : own_frm Z TT.heap nb fa (1 : Int64) (0 : Int64) (1 : Int32) tA uA .null)
    (Fe : Fld Z TT.heap fa "com/example/hemotide/hemotide/link/Frame" "endsRecord" "Z" (.int (0 : Int32))) : own_End p e below s TT (mkF m 278 (lA16 p1 p2 p3 p4 bT bF bG nn tF tG tH tA fa ff fg dd fh tt) []) := by
  have hx := Bd.exec
  have hZa := hZ
  have howna := hown
  have hby : c.code = code := Bd.bytes
  have own_wS : ∀ d ∈ Bundle.stringAtoms, d.before a0 Z = true := own_wSof hw
  obtain ⟨n0, hn0⟩ : ∃ z, z = s.heap.size := ⟨_, rfl⟩
  rw [← hn0] at N0 Z0
  obtain ⟨EtT, FtA, FtR, FtC, FtD⟩ := id Ht
  have g_tt : n0 ≤ tt := Nat.le_trans (Nat.le_of_eq (by rw [hn0, hh])) (Nat.le_trans hnb w_tt)
  obtain ⟨Ea, Pa, Oa, Ma, Xa, Da, Sa, ltA⟩ := id Fa
  rcases hT with ⟨hb4, hdd⟩ | ⟨hb4, hdd⟩
  · have FtD2 : Fld Z TT.heap tt "com/example/hemotide/hemotide/link/Transfer" "due" "I" (.int dd) := by rw [hdd]; exact FtD
    refine own_End.by (g' := (mkF m 291 (lA16 p1 p2 p3 p4 bT bF bG nn tF tG tH tA fa ff fg dd fh tt) [])) (own_K1b hw Bd hml (X0.more (by decide : 30 ≤ 30) (by decide : 1500 ≤ 1500)) hS hk0 hZ hown (hn0 ▸ N0) (hn0 ▸ Z0) IBs hh hold HC HCW (own_W.trans W0 (own_W.mono hnb (own_W.refl nb TT.heap))) hnb SC hcs SO ST VO VT hd1 hd2 ⟨EtT, FtA, FtR, FtC, FtD2⟩ (Fh.W (own_W.refl nb TT.heap)) (Ff.W (own_W.refl nb TT.heap)) (Fg.W (own_W.refl nb TT.heap)) hFd hGd hne1 hne2 w_tt) ?_
    intro tg kt
    show Steps _ _ _ (TT.setTop (mkF m 278 (lA16 p1 p2 p3 p4 bT bF bG nn tF tG tH tA fa ff fg dd fh tt) [])) _
    refine XS.iload X0.here hx rfl (hb hby at_278) rfl ?_
    refine XS.ifYes X0.here hx rfl (pc0 := 280) (pc' := 291) rfl (hb hby at_280) rfl ((if0 _ _).trans (teq (hb4 : bT = (0 : Int32))).1) (by decide) (by decide) ?_
    show Steps _ _ _ (TT.setTop (mkF m 291 (lA16 p1 p2 p3 p4 bT bF bG nn tF tG tH tA fa ff fg dd fh tt) [])) _
    exact kt
  · obtain ⟨cq1, kq1, q1a, q1b, q1c⟩ := isOf hZ rfl EtT
    obtain ⟨_, _, ⟨T1, L1, k1, n1⟩, -, X1, ⟨Lc1, hQ1, l1, y1, z1⟩, st1⟩ := X0.virtualBack hx (y := mn13) (z := mn13) hown (mvT hZ (wJ hw 306 rfl)) (mvT hZ (wJ hw 307 rfl)) (notFace_of_selects (args := #[]) (mvT hZ (wJ hw 309 rfl))) (mvT hZ (wJ hw 309 rfl)) (mvT hZ (wJ hw 308 rfl)) (by decide) (backOf (W := 0) (own_take l Z a0 hw [] tt fa asm tA uA cs h0.size TT.heap n0 Z0 EtT Fm FtD FtR FtA FtC HA lta Ea Xa Fe Sa.txt (Nat.lt_of_lt_of_le ltA w_tt) g_tt (Nat.le_trans hnb w_tt) (own_S.W SC W0) hcs) hZ (wJ hw 310 rfl) (wJ hw 65 rfl) (by decide) (by decide)) q1a q1c (g := (mkF m 287 (lA16 p1 p2 p3 p4 bT bF bG nn tF tG tH tA fa ff fg dd fh tt) [(.ref fa), (.ref tt)])) rfl (by rw [hml]; rfl) (Steps.refl _) (argsL := [(.ref fa)]) (rest := []) (lenOf pd__Lcom_example_hemotide_hemotide_link_Frame__Lcom_example_hemotide_hemotide_records_AstmMessage_ rfl) rfl (by show 2 * 0 + _ ≤ _; exact Nat.le_of_eq rfl) (hb hby at_287) (fun _ _ => ⟨rfl, rfl, (by decide : 30 + 0 ≤ _), (by decide : 1500 + 0 ≤ _)⟩)
    dsimp only [Pt.U, Pt.locs, Pt.cells, Pt.slots] at X1 l1 y1 z1 st1 hQ1
    replace X1 := X1.more (Nat.le_of_eq (show k1 = 30 from y1)) (Nat.le_of_eq (show n1 = 1500 from z1))
    obtain ⟨rfl, Nq1, Wq1, Fd2, Fr2, Fa2, Fc2⟩ := hQ1
    have Z1 : n0 ≤ T1.heap.size := Nat.le_trans Z0 Wq1.size
    have hk1 : ks ≤ T1.heap.size := Nat.le_trans hk0 Wq1.size
    have WW1 : own_W nb TT.heap T1.heap := own_W.trans (own_W.refl nb TT.heap) (own_W.mono (w_tt) Wq1)
    have N1 : Fr n0 L1 := by rw [l1]; exact Fr.app N0 Nq1
    have EtT2 : Exa Z T1.heap tt "com/example/hemotide/hemotide/link/Transfer" := by obtain ⟨_, K, _⟩ := Wq1; exact EtT.keep K
    have Fd3 : Fld Z T1.heap tt "com/example/hemotide/hemotide/link/Transfer" "due" "I" (.int dd) := by rw [hdd]; exact Fd2
    refine own_End.by (g' := (mkF m 291 (lA16 p1 p2 p3 p4 bT bF bG nn tF tG tH tA fa ff fg dd fh tt) [])) (own_K1b hw Bd hml (X1.more (by decide : 30 ≤ 30) (by decide : 1500 ≤ 1500)) hS hk1 hZ hown (hn0 ▸ N1) (hn0 ▸ Z1) IBs hh hold HC HCW (own_W.trans W0 (own_W.mono hnb WW1)) hnb SC hcs SO ST VO VT hd1 hd2 ⟨EtT2, Fa2, Fr2, Fc2, Fd3⟩ (Fh.W WW1) (Ff.W WW1) (Fg.W WW1) hFd hGd hne1 hne2 w_tt) ?_
    intro tg kt
    show Steps _ _ _ (TT.setTop (mkF m 278 (lA16 p1 p2 p3 p4 bT bF bG nn tF tG tH tA fa ff fg dd fh tt) [])) _
    refine XS.iload X0.here hx rfl (hb hby at_278) rfl ?_
    refine XS.ifNo X0.here hx rfl (hb hby at_280) rfl ((if0 _ _).trans (feq (hb4 : ¬ (bT = (0 : Int32)))).1) ?_
    refine XS.aload X0.here hx rfl (hb hby at_283) rfl rfl ?_
    refine XS.aload X0.here hx rfl (hb hby at_285) rfl rfl ?_
    show Steps _ _ _ (TT.setTop (mkF m 287 (lA16 p1 p2 p3 p4 bT bF bG nn tF tG tH tA fa ff fg dd fh tt) [(.ref fa), (.ref tt)])) _
    refine st1.trans ?_
    refine XS.pop X1.here hx rfl (hb hby at_290) rfl rfl ?_
    show Steps _ _ _ (T1.setTop (mkF m 291 (lA16 p1 p2 p3 p4 bT bF bG nn tF tG tH tA fa ff fg dd fh tt) [])) _
    exact kt
def own_new (Z : State) (h : Heap) (f : Addr) : Prop := Exa Z h f "com/example/hemotide/hemotide/link/Frame" ∧ Fld Z h f "com/example/hemotide/hemotide/link/Frame" "position" "J" (.long (0 : Int64)) ∧ Fld Z h f "com/example/hemotide/hemotide/link/Frame" "offset" "J" (.long (0 : Int64)) ∧ Fld Z h f "com/example/hemotide/hemotide/link/Frame" "end" "J" (.long (0 : Int64)) ∧ Fld Z h f "com/example/hemotide/hemotide/link/Frame" "number" "I" (.int (0 : Int32)) ∧ Fld Z h f "com/example/hemotide/hemotide/link/Frame" "text" "Ljava/lang/String;" .null ∧ Fld Z h f "com/example/hemotide/hemotide/link/Frame" "endsRecord" "Z" (.int (0 : Int32)) ∧ Fld Z h f "com/example/hemotide/hemotide/link/Frame" "complete" "Z" (.int (0 : Int32)) ∧ Fld Z h f "com/example/hemotide/hemotide/link/Frame" "defect" "Ljava/lang/String;" .null
theorem own_frm.mono {Z : State} {h : Heap} {nb n2 : Nat} {f : Addr} {ps ofs : Int64} {nm : Int32} {tx : Addr} {u : Int32} {dv : Value} (S : own_frm Z h nb f ps ofs nm tx u dv) (q : nb ≤ n2) : own_frm Z h n2 f ps ofs nm tx u dv := by
  obtain ⟨e, f1, f2, f3, f4, f5, ⟨b, k, e', g1, g2, v, r1, r2⟩, r⟩ := S
  exact ⟨e, f1, f2, f3, f4, f5, ⟨b, k, e', g1, g2, v, Nat.lt_of_lt_of_le r1 q, Nat.lt_of_lt_of_le r2 q⟩, Nat.lt_of_lt_of_le r q⟩
theorem own_tn.mono {Z : State} {h : Heap} {nb n2 : Nat} {t : Addr} {u : Int32} (S : own_tn Z h nb t u) (q : nb ≤ n2) : own_tn Z h n2 t u := by
  obtain ⟨b, k, e', g1, g2, v, r1, r2⟩ := S
  exact ⟨b, k, e', g1, g2, v, Nat.lt_of_lt_of_le r1 q, Nat.lt_of_lt_of_le r2 q⟩
theorem pd__JJJILjava_lang_String_ZZLjava_lang_String__V : parseMethodDescriptor "(JJJILjava/lang/String;ZZLjava/lang/String;)V" = some ⟨[.long, .long, .long, .int, (.object "java/lang/String"), .boolean, .boolean, (.object "java/lang/String")], none⟩ := by decide +kernel
theorem own_K0c {p : Program} {l : Launch} {e : Env} {s : State} {m : MethodId} {args : Array Value} {below : List Frame} {meth : Method} {c : Code} {s₁ : State} {SS : Spec} {Z : State} {a0 : Array Value} {TT : State} {vm : Vm} {LL : List Loc} {ks : Nat} {p1 : Int32} {p2 : Int32} {p3 : Int32} {p4 : Int32} {bT : Int32} {bF : Int32} {bG : Int32} {nn : Int32} {tF : Addr} {tG : Addr} {tH : Addr} {tA : Addr} {fa : Addr} {ff : Addr} {fg : Addr} {uF : Int32} {uG : Int32} {uH : Int32} {uA : Int32} {dF : Value} {dG : Value} {z6 : Int32} {z7 : Int32} {h0 : Heap} {cs : Int32} {d1 : Addr} {d2 : Addr} {kd1 : ClassId} {kd2 : ClassId} {vo : List Value} {vt : List Value}
    (hw : ∀ d ∈ tables_1, d.before a0 Z = true)
    (Bd : BodyLoose p l x SS code maxLocals ret e s m args below meth c s₁)
    (hml : c.maxLocals = 22)
    (X0 : Stand p l e room_1 (s.setVm vm) m args below meth c TT LL 20 200)
    (hS : s.Since vm ks)
    (hk0 : ks ≤ TT.heap.size)
    (hZ : Z.Warmed39 (s.setVm vm).vm)
    (hown : (s.setVm vm).vm.findClass "com/example/hemotide/hemotide/link/TransferRefusePinLaw" = some m.cls)
    (N0 : Fr s.heap.size LL)
    (Z0 : s.heap.size ≤ TT.heap.size)
    (IBs : IB Z vm [own_T305])
    (hh : s.heap = h0)
    (hold : ∀ (b : Addr) (cl : Cell), Z.heap[b]? = some cl → h0[b]? = some cl)
    (HC : ∀ q ∈ consts_1, Jvm.Lit.constHeld Z q.1 q.2)
    (HCW : Jvm.Lit.compactW.before a0 Z = true)
    (W0 : own_W h0.size h0 TT.heap)
    (SC : own_S Z h0 h0.size "java/lang/String" "COMPACT_STRINGS" "Z" (.int cs))
    (hcs : ¬ (cs = (0 : Int32)))
    (SO : own_S Z h0 h0.size "java/lang/Integer" "DigitOnes" "[B" (.ref d1))
    (ST : own_S Z h0 h0.size "java/lang/Integer" "DigitTens" "[B" (.ref d2))
    (VO : Arv Z h0 d1 kd1 .byte (100 : Int32) vo (.int (0 : Int32)))
    (VT : Arv Z h0 d2 kd2 .byte (100 : Int32) vt (.int (0 : Int32)))
    (hd1 : d1 < h0.size)
    (hd2 : d2 < h0.size)
    (hnb : h0.size ≤ fg)
    (Hnew : own_new Z TT.heap fg)
    (Fa : own_frm Z TT.heap fg fa (1 : Int64) (0 : Int64) (1 : Int32) tA uA .null)
    (Fe : Fld Z TT.heap fa "com/example/hemotide/hemotide/link/Frame" "endsRecord" "Z" (.int (0 : Int32)))
    (Ff : own_frm Z TT.heap fg ff (2 : Int64) (10 : Int64) p2 tF uF dF)
    (HG : own_tn Z TT.heap fg tG uG)
    (HH : own_tn Z TT.heap fg tH uH)
    (hz6 : z6 = (0 : Int32) ∨ z6 = (1 : Int32))
    (hz7 : z7 = (0 : Int32) ∨ z7 = (1 : Int32))
    (hFd : (bF = (0 : Int32) ∧ dF = .null) ∨ (¬ bF = (0 : Int32) ∧ ∃ ba : Addr, dF = .ref ba))
    (hGd : (bG = (0 : Int32) ∧ dG = .null) ∨ (¬ bG = (0 : Int32) ∧ ∃ ba : Addr, dG = .ref ba))
    (hne1 : tH ≠ tF)
    (hne2 : tH ≠ tG) : own_End p e below s TT (mkF m 227 (lA12 p1 p2 p3 p4 bT bF bG nn tF tG tH tA fa ff) [dG, (.int z7), (.int z6), (.ref tG), (.int p3), (.long (21 : Int64)), (.long (20 : Int64)), (.long (3 : Int64)), (.ref fg), (.ref fg)]) := by
  have hx := Bd.exec
  have hZa := hZ
  have howna := hown
  have hby : c.code = code := Bd.bytes
  have own_wS : ∀ d ∈ Bundle.stringAtoms, d.before a0 Z = true := own_wSof hw
  obtain ⟨n0, hn0⟩ : ∃ z, z = s.heap.size := ⟨_, rfl⟩
  rw [← hn0] at N0 Z0
  obtain ⟨NgE, Ng0, Ng1, Ng2, Ng3, Ng4, Ng5, Ng6, Ng7⟩ := Hnew
  have w_fg := Nat.le_refl fg
  have g_fg : n0 ≤ fg := Nat.le_trans (Nat.le_of_eq (by rw [hn0, hh])) hnb
  have hdv : dG.isRef = true := by rcases hGd with ⟨-, q⟩ | ⟨-, _, q⟩ <;> rw [q] <;> rfl
  obtain ⟨_, _, ⟨T1, L1, k1, n1⟩, -, X1, ⟨Lc1, hQ1, l1, y1, z1⟩, st1⟩ := X0.specialBack hx (y := mn1) rfl hown (mvT hZ (wJ hw 29 rfl)) (mvT hZ (wJ hw 30 rfl)) (mvT hZ (wJ hw 31 rfl)) (by decide) (backOf (W := 1) (own_fri l Z a0 hw [] fg (3 : Int64) (20 : Int64) (21 : Int64) p3 tG z6 z7 dG  TT.heap n0 Z0 Ng0 Ng1 Ng2 Ng3 Ng4 Ng5 Ng6 Ng7 NgE g_fg hz6 hz7 hdv) hZ (wJ hw 31 rfl) (wJ hw 28 rfl) (by decide) (by decide)) (g := (mkF m 227 (lA12 p1 p2 p3 p4 bT bF bG nn tF tG tH tA fa ff) [dG, (.int z7), (.int z6), (.ref tG), (.int p3), (.long (21 : Int64)), (.long (20 : Int64)), (.long (3 : Int64)), (.ref fg), (.ref fg)])) rfl (by rw [hml]; rfl) (Steps.refl _) (a := fg) (argsL := [(.long (3 : Int64)), (.long (20 : Int64)), (.long (21 : Int64)), (.int p3), (.ref tG), (.int z6), (.int z7), dG]) (rest := [(.ref fg)]) (lenOf pd__JJJILjava_lang_String_ZZLjava_lang_String__V rfl) rfl (by show 2 * 0 + _ ≤ _; exact Nat.le_of_eq rfl) (hb hby at_227) (fun _ _ => ⟨rfl, rfl, (by decide : 20 + 0 ≤ _), (by decide : 200 + 0 ≤ _)⟩)
  dsimp only [Pt.U, Pt.locs, Pt.cells, Pt.slots] at X1 l1 y1 z1 st1 hQ1
  replace X1 := X1.more (Nat.le_of_eq (show k1 = 20 from y1)) (Nat.le_of_eq (show n1 = 200 from z1))
  obtain ⟨rfl, Nq1, Kq1, Gg0, Gg1, Gg2, Gg3, Gg4, Gg5, Gg6, Gg7⟩ := hQ1
  have Z1 : n0 ≤ T1.heap.size := Nat.le_trans Z0 Kq1.1
  have hk1 : ks ≤ T1.heap.size := Nat.le_trans hk0 Kq1.1
  have WW1 : own_W fg TT.heap T1.heap := own_W.keep (own_W.refl fg TT.heap) Kq1 (allS w_fg all0)
  have N1 : Fr n0 L1 := by rw [l1]; exact Fr.app N0 Nq1
  obtain ⟨dd, hT⟩ : ∃ dd : Int32, (bT = (0 : Int32) ∧ dd = (1 : Int32)) ∨ (¬ bT = (0 : Int32) ∧ dd = (2 : Int32)) := by
    by_cases q : bT = (0 : Int32)
    · exact ⟨1, Or.inl ⟨q, rfl⟩⟩
    · exact ⟨2, Or.inr ⟨q, rfl⟩⟩
  have sg1 : ∀ target, Steps p.tables e below (T1.setTop (mkF m 242 (lA13 p1 p2 p3 p4 bT bF bG nn tF tG tH tA fa ff fg) [(.int dd)])) target → Steps p.tables e below (T1.setTop (mkF m 234 (lA13 p1 p2 p3 p4 bT bF bG nn tF tG tH tA fa ff fg) [(.int bT)])) target := by
    intro target kt
    rcases hT with ⟨q1, q2⟩ | ⟨q1, q2⟩
    · rw [q2] at kt
      show Steps _ _ _ (T1.setTop (mkF m 234 (lA13 p1 p2 p3 p4 bT bF bG nn tF tG tH tA fa ff fg) [(.int bT)])) _
      refine XS.ifYes X1.here hx rfl (pc0 := 234) (pc' := 241) rfl (hb hby at_234) rfl ((if0 _ _).trans (teq (q1 : bT = (0 : Int32))).1) (by decide) (by decide) ?_
      refine XS.iconst X1.here hx rfl (hb hby at_241) ?_
      show Steps _ _ _ (T1.setTop (mkF m 242 (lA13 p1 p2 p3 p4 bT bF bG nn tF tG tH tA fa ff fg) [(.int (1 : Int32))])) _
      exact kt
    · rw [q2] at kt
      show Steps _ _ _ (T1.setTop (mkF m 234 (lA13 p1 p2 p3 p4 bT bF bG nn tF tG tH tA fa ff fg) [(.int bT)])) _
      refine XS.ifNo X1.here hx rfl (hb hby at_234) rfl ((if0 _ _).trans (feq (q1 : ¬ (bT = (0 : Int32)))).1) ?_
      refine XS.iconst X1.here hx rfl (hb hby at_237) ?_
      refine XS.goto X1.here hx rfl (pc0 := 238) (pc' := 242) rfl (hb hby at_238) (by decide) (by decide) ?_
      show Steps _ _ _ (T1.setTop (mkF m 242 (lA13 p1 p2 p3 p4 bT bF bG nn tF tG tH tA fa ff fg) [(.int (2 : Int32))])) _
      exact kt
  obtain ⟨T2, h2, X2, e2, E2, A2, D2, -, st2⟩ := newO X1 hx hZ hown (wJ hw 26 rfl) (wJ hw 27 rfl) (wJ hw 28 rfl) rfl (g := (mkF m 244 (lA14 p1 p2 p3 p4 bT bF bG nn tF tG tH tA fa ff fg dd) [])) rfl (hb hby at_244) (by decide) (by decide)
  obtain ⟨fh, g2⟩ : ∃ z, z = T1.heap.size := ⟨_, rfl⟩
  rw [← g2] at A2 D2 st2
  have g_fh : n0 ≤ fh := Nat.le_trans Z1 (Nat.le_of_eq g2.symm)
  have sz_fh : TT.heap.size ≤ fh := Nat.le_trans WW1.size (Nat.le_of_eq g2.symm)
  have Z2 : n0 ≤ h2.size := Nat.le_trans Z1 E2.1
  have hk2 : ks ≤ h2.size := Nat.le_trans hk1 E2.1
  have WW2 : own_W fg TT.heap h2 := own_W.ext WW1 E2
  have F_position_fh : Fld Z h2 fh "com/example/hemotide/hemotide/link/Frame" "position" "J" (.long (0 : Int64)) := D2 (Or.inr (wJ hw 39 rfl)) (ty := .long) (by decide)
  have F_offset_fh : Fld Z h2 fh "com/example/hemotide/hemotide/link/Frame" "offset" "J" (.long (0 : Int64)) := D2 (Or.inr (wJ hw 41 rfl)) (ty := .long) (by decide)
  have F_end_fh : Fld Z h2 fh "com/example/hemotide/hemotide/link/Frame" "end" "J" (.long (0 : Int64)) := D2 (Or.inr (wJ hw 43 rfl)) (ty := .long) (by decide)
  have F_number_fh : Fld Z h2 fh "com/example/hemotide/hemotide/link/Frame" "number" "I" (.int (0 : Int32)) := D2 (Or.inr (wJ hw 45 rfl)) (ty := .int) (by decide)
  have F_text_fh : Fld Z h2 fh "com/example/hemotide/hemotide/link/Frame" "text" "Ljava/lang/String;" .null := D2 (Or.inr (wJ hw 47 rfl)) (ty := (.object "java/lang/String")) (by decide)
  have F_endsRecord_fh : Fld Z h2 fh "com/example/hemotide/hemotide/link/Frame" "endsRecord" "Z" (.int (0 : Int32)) := D2 (Or.inr (wJ hw 49 rfl)) (ty := .boolean) (by decide)
  have F_complete_fh : Fld Z h2 fh "com/example/hemotide/hemotide/link/Frame" "complete" "Z" (.int (0 : Int32)) := D2 (Or.inr (wJ hw 51 rfl)) (ty := .boolean) (by decide)
  have F_defect_fh : Fld Z h2 fh "com/example/hemotide/hemotide/link/Frame" "defect" "Ljava/lang/String;" .null := D2 (Or.inr (wJ hw 53 rfl)) (ty := (.object "java/lang/String")) (by decide)
  have w_fh : fg ≤ fh := Nat.le_trans (Nat.le_of_lt NgE.lt) sz_fh
  obtain ⟨_, _, ⟨T3, L3, k3, n3⟩, -, X3, ⟨Lc3, hQ3, l3, y3, z3⟩, st3⟩ := X2.specialBack hx (y := mn1) rfl hown (mvT hZ (wJ hw 29 rfl)) (mvT hZ (wJ hw 30 rfl)) (mvT hZ (wJ hw 31 rfl)) (by decide) (backOf (W := 1) (own_fri l Z a0 hw [] fh (4 : Int64) (30 : Int64) (31 : Int64) dd tH (0 : Int32) (1 : Int32) .null h2 n0 Z2 F_position_fh F_offset_fh F_end_fh F_number_fh F_text_fh F_endsRecord_fh F_complete_fh F_defect_fh A2 g_fh (Or.inl rfl) (Or.inr rfl) rfl) hZ (wJ hw 31 rfl) (wJ hw 28 rfl) (by decide) (by decide)) (g := (mkF m 264 (lA14 p1 p2 p3 p4 bT bF bG nn tF tG tH tA fa ff fg dd) [.null, (.int (1 : Int32)), (.int (0 : Int32)), (.ref tH), (.int dd), (.long (31 : Int64)), (.long (30 : Int64)), (.long (4 : Int64)), (.ref fh), (.ref fh)])) rfl (by rw [hml]; rfl) (Steps.refl _) (a := fh) (argsL := [(.long (4 : Int64)), (.long (30 : Int64)), (.long (31 : Int64)), (.int dd), (.ref tH), (.int (0 : Int32)), (.int (1 : Int32)), .null]) (rest := [(.ref fh)]) (lenOf pd__JJJILjava_lang_String_ZZLjava_lang_String__V rfl) rfl (by show 2 * 0 + _ ≤ _; exact Nat.le_of_eq rfl) (hb hby at_264) (fun _ _ => ⟨rfl, e2, (by decide : 21 + 0 ≤ _), (by decide : 208 + 0 ≤ _)⟩)
  dsimp only [Pt.U, Pt.locs, Pt.cells, Pt.slots] at X3 l3 y3 z3 st3 hQ3
  replace X3 := X3.more (Nat.le_of_eq (show k3 = 21 from y3)) (Nat.le_of_eq (show n3 = 208 from z3))
  obtain ⟨rfl, Nq3, Kq3, Gh0, Gh1, Gh2, Gh3, Gh4, Gh5, Gh6, Gh7⟩ := hQ3
  have Z3 : n0 ≤ T3.heap.size := Nat.le_trans Z2 Kq3.1
  have hk3 : ks ≤ T3.heap.size := Nat.le_trans hk2 Kq3.1
  have WW3 : own_W fg TT.heap T3.heap := own_W.keep WW2 Kq3 (allS w_fh all0)
  have N3 : Fr n0 L3 := by rw [l3]; exact Fr.app N1 Nq3
  obtain ⟨T4, h4, X4, e4, E4, A4, D4, -, st4⟩ := newO X3 hx hZ hown (wJ hw 63 rfl) (wJ hw 64 rfl) (wJ hw 65 rfl) rfl (g := (mkF m 269 (lA15 p1 p2 p3 p4 bT bF bG nn tF tG tH tA fa ff fg dd fh) [])) rfl (hb hby at_269) (by decide) (by decide)
  obtain ⟨tt, g4⟩ : ∃ z, z = T3.heap.size := ⟨_, rfl⟩
  rw [← g4] at A4 D4 st4
  have g_tt : n0 ≤ tt := Nat.le_trans Z3 (Nat.le_of_eq g4.symm)
  have sz_tt : TT.heap.size ≤ tt := Nat.le_trans WW3.size (Nat.le_of_eq g4.symm)
  have Z4 : n0 ≤ h4.size := Nat.le_trans Z3 E4.1
  have hk4 : ks ≤ h4.size := Nat.le_trans hk3 E4.1
  have WW4 : own_W fg TT.heap h4 := own_W.ext WW3 E4
  have F_assembler_tt : Fld Z h4 tt "com/example/hemotide/hemotide/link/Transfer" "assembler" "Lcom/example/hemotide/hemotide/link/MessageAssembler;" .null := D4 (Or.inr (wJ hw 98 rfl)) (ty := (.object "com/example/hemotide/hemotide/link/MessageAssembler")) (by decide)
  have F_due_tt : Fld Z h4 tt "com/example/hemotide/hemotide/link/Transfer" "due" "I" (.int (0 : Int32)) := D4 (Or.inl (wJ hw 100 rfl)) (ty := .int) (by decide)
  have F_awaited_tt : Fld Z h4 tt "com/example/hemotide/hemotide/link/Transfer" "awaited" "Lcom/example/hemotide/hemotide/link/Frame;" .null := D4 (Or.inl (wJ hw 107 rfl)) (ty := (.object "com/example/hemotide/hemotide/link/Frame")) (by decide)
  have F_repeatable_tt : Fld Z h4 tt "com/example/hemotide/hemotide/link/Transfer" "repeatable" "Lcom/example/hemotide/hemotide/link/Frame;" .null := D4 (Or.inl (wJ hw 114 rfl)) (ty := (.object "com/example/hemotide/hemotide/link/Frame")) (by decide)
  have F_refusedInARow_tt : Fld Z h4 tt "com/example/hemotide/hemotide/link/Transfer" "refusedInARow" "I" (.int (0 : Int32)) := D4 (Or.inl (wJ hw 116 rfl)) (ty := .int) (by decide)
  have w_tt : fg ≤ tt := Nat.le_trans (Nat.le_of_lt NgE.lt) sz_tt
  obtain ⟨_, _, ⟨T5, L5, k5, n5⟩, -, X5, ⟨Lc5, hQ5, l5, y5, z5⟩, st5⟩ := X4.specialBack hx (y := mn9) rfl hown (mvT hZ (wJ hw 66 rfl)) (mvT hZ (wJ hw 67 rfl)) (mvT hZ (wJ hw 68 rfl)) (by decide) (backOf (W := 1) (own_tri l Z a0 hw [] tt cs h0.size h4 n0 Z4 F_assembler_tt F_due_tt F_repeatable_tt F_awaited_tt F_refusedInARow_tt A4 g_tt (Nat.le_of_eq (by rw [hn0, hh])) (Nat.le_trans W0.size WW4.size) (own_S.W SC (own_W.trans W0 (own_W.mono hnb WW4))) hcs) hZ (wJ hw 68 rfl) (wJ hw 65 rfl) (by decide) (by decide)) (g := (mkF m 273 (lA15 p1 p2 p3 p4 bT bF bG nn tF tG tH tA fa ff fg dd fh) [(.ref tt), (.ref tt)])) rfl (by rw [hml]; rfl) (Steps.refl _) (a := tt) (argsL := []) (rest := [(.ref tt)]) (lenOf pd___V rfl) rfl (by show 2 * 0 + _ ≤ _; exact Nat.le_of_eq rfl) (hb hby at_273) (fun _ _ => ⟨rfl, e4, (by decide : 22 + 3 ≤ _), (by decide : 213 + 27 ≤ _)⟩)
  dsimp only [Pt.U, Pt.locs, Pt.cells, Pt.slots] at X5 l5 y5 z5 st5 hQ5
  replace X5 := X5.more (Nat.le_of_eq (show k5 = 25 from y5)) (Nat.le_of_eq (show n5 = 240 from z5))
  obtain ⟨rfl, Nq5, Kq5, asm, lta, HA, Gt0, Gt1, Gt2, Gt3, Gt4⟩ := hQ5
  have Z5 : n0 ≤ T5.heap.size := Nat.le_trans Z4 Kq5.1
  have hk5 : ks ≤ T5.heap.size := Nat.le_trans hk4 Kq5.1
  have WW5 : own_W fg TT.heap T5.heap := own_W.keep WW4 Kq5 (allS w_tt all0)
  have N5 : Fr n0 L5 := by rw [l5]; exact Fr.app N3 Nq5
  have lg : fg < tt := Nat.lt_of_lt_of_le NgE.lt sz_tt
  have lh : fh < tt := Nat.lt_of_lt_of_le A2.lt (Nat.le_trans Kq3.1 (Nat.le_of_eq g4.symm))
  have F1 : own_frm Z T5.heap tt ff (2 : Int64) (10 : Int64) p2 tF uF dF := (Ff.W WW5).mono w_tt
  have F2 : own_frm Z T5.heap tt fa (1 : Int64) (0 : Int64) (1 : Int32) tA uA .null := (Fa.W WW5).mono w_tt
  have F3 : Fld Z T5.heap fa "com/example/hemotide/hemotide/link/Frame" "endsRecord" "Z" (.int (0 : Int32)) := own_W.fld Fe (by obtain ⟨_, _, _, _, _, _, _, q⟩ := Fa; exact q) WW5
  have fc6 := (A4.keep Kq5)
  have fc7 := (((A2.keep Kq3).ext E4).keep Kq5)
  have fc8 := (A2.keep Kq3)
  have ne_fh_tt : fh ≠ tt := Nat.ne_of_lt (Nat.lt_of_lt_of_le fc8.lt (Nat.le_of_eq g4.symm))
  have fc9 := ((Gh0.ext E4).keep Kq5 (ninS ne_fh_tt nin0))
  have fc10 := ((Gh1.ext E4).keep Kq5 (ninS ne_fh_tt nin0))
  have fc11 := ((Gh3.ext E4).keep Kq5 (ninS ne_fh_tt nin0))
  have fc12 := ((Gh4.ext E4).keep Kq5 (ninS ne_fh_tt nin0))
  have fc13 := ((Gh7.ext E4).keep Kq5 (ninS ne_fh_tt nin0))
  have fc14 := (((((NgE.keep Kq1).ext E2).keep Kq3).ext E4).keep Kq5)
  have fc15 := (NgE.keep Kq1)
  have ne_fg_fh : fg ≠ fh := Nat.ne_of_lt (Nat.lt_of_lt_of_le fc15.lt (Nat.le_of_eq g2.symm))
  have fc16 := ((fc15.ext E2).keep Kq3)
  have ne_fg_tt : fg ≠ tt := Nat.ne_of_lt (Nat.lt_of_lt_of_le fc16.lt (Nat.le_of_eq g4.symm))
  have fc17 := ((((Gg0.ext E2).keep Kq3 (ninS ne_fg_fh nin0)).ext E4).keep Kq5 (ninS ne_fg_tt nin0))
  have fc18 := ((((Gg1.ext E2).keep Kq3 (ninS ne_fg_fh nin0)).ext E4).keep Kq5 (ninS ne_fg_tt nin0))
  have fc19 := ((((Gg3.ext E2).keep Kq3 (ninS ne_fg_fh nin0)).ext E4).keep Kq5 (ninS ne_fg_tt nin0))
  have fc20 := ((((Gg4.ext E2).keep Kq3 (ninS ne_fg_fh nin0)).ext E4).keep Kq5 (ninS ne_fg_tt nin0))
  have fc21 := ((((Gg7.ext E2).keep Kq3 (ninS ne_fg_fh nin0)).ext E4).keep Kq5 (ninS ne_fg_tt nin0))
  refine own_End.by (g' := (mkF m 278 (lA16 p1 p2 p3 p4 bT bF bG nn tF tG tH tA fa ff fg dd fh tt) [])) (own_K1 hw Bd hml (X5.more (by decide : 25 ≤ 30) (by decide : 240 ≤ 1500)) hS hk5 hZ hown (hn0 ▸ N5) (hn0 ▸ Z5) IBs hh hold HC HCW (own_W.trans W0 (own_W.mono hnb WW5)) (Nat.le_trans hnb w_tt) SC hcs SO ST VO VT hd1 hd2 ⟨fc6, Gt3, Gt2, Gt4, Gt1⟩ ⟨fc7, fc9, fc10, fc11, fc12, fc13, ((HH.W WW5).mono w_tt), lh⟩ F1 ⟨fc14, fc17, fc18, fc19, fc20, fc21, ((HG.W WW5).mono w_tt), lg⟩ hFd hGd hne1 hne2 (Nat.le_refl _) hT Gt0 HA lta F2 F3) ?_
  intro tg kt
  show Steps _ _ _ (TT.setTop (mkF m 227 (lA12 p1 p2 p3 p4 bT bF bG nn tF tG tH tA fa ff) [dG, (.int z7), (.int z6), (.ref tG), (.int p3), (.long (21 : Int64)), (.long (20 : Int64)), (.long (3 : Int64)), (.ref fg), (.ref fg)])) _
  refine st1.trans ?_
  refine XS.astore X1.here hx rfl (hb hby at_230) rfl rfl (l' := (lA13 p1 p2 p3 p4 bT bF bG nn tF tG tH tA fa ff fg)) rfl ?_
  refine XS.iload X1.here hx rfl (hb hby at_232) rfl ?_
  refine sg1 _ ?_
  show Steps _ _ _ (T1.setTop (mkF m 242 (lA13 p1 p2 p3 p4 bT bF bG nn tF tG tH tA fa ff fg) [(.int dd)])) _
  refine XS.istore X1.here hx rfl (hb hby at_242) rfl (l' := (lA14 p1 p2 p3 p4 bT bF bG nn tF tG tH tA fa ff fg dd)) rfl ?_
  refine st2 _ ?_
  refine XS.dup X2.here hx rfl (hb hby at_247) rfl rfl ?_
  refine X2.ldc2Long hx howna (mvT hZa (wJ hw 60 rfl)) (g := (mkF m 248 (lA14 p1 p2 p3 p4 bT bF bG nn tF tG tH tA fa ff fg dd) [(.ref fh), (.ref fh)])) rfl (hb hby at_248) _ ?_
  show Steps _ _ _ (T2.setTop (mkF m 251 (lA14 p1 p2 p3 p4 bT bF bG nn tF tG tH tA fa ff fg dd) [(.long (4 : Int64)), (.ref fh), (.ref fh)])) _
  refine X2.ldc2Long hx howna (mvT hZa (wJ hw 61 rfl)) (g := (mkF m 251 (lA14 p1 p2 p3 p4 bT bF bG nn tF tG tH tA fa ff fg dd) [(.long (4 : Int64)), (.ref fh), (.ref fh)])) rfl (hb hby at_251) _ ?_
  refine X2.ldc2Long hx howna (mvT hZa (wJ hw 62 rfl)) (g := (mkF m 254 (lA14 p1 p2 p3 p4 bT bF bG nn tF tG tH tA fa ff fg dd) [(.long (30 : Int64)), (.long (4 : Int64)), (.ref fh), (.ref fh)])) rfl (hb hby at_254) _ ?_
  refine XS.iload X2.here hx rfl (hb hby at_257) rfl ?_
  refine XS.aload X2.here hx rfl (hb hby at_259) rfl rfl ?_
  show Steps _ _ _ (T2.setTop (mkF m 261 (lA14 p1 p2 p3 p4 bT bF bG nn tF tG tH tA fa ff fg dd) [(.ref tH), (.int dd), (.long (31 : Int64)), (.long (30 : Int64)), (.long (4 : Int64)), (.ref fh), (.ref fh)])) _
  refine XS.iconst X2.here hx rfl (hb hby at_261) ?_
  refine XS.iconst X2.here hx rfl (hb hby at_262) ?_
  refine XS.aconstNull X2.here hx rfl (hb hby at_263) ?_
  refine st3.trans ?_
  show Steps _ _ _ (T3.setTop (mkF m 267 (lA14 p1 p2 p3 p4 bT bF bG nn tF tG tH tA fa ff fg dd) [(.ref fh)])) _
  refine XS.astore X3.here hx rfl (hb hby at_267) rfl rfl (l' := (lA15 p1 p2 p3 p4 bT bF bG nn tF tG tH tA fa ff fg dd fh)) rfl ?_
  refine st4 _ ?_
  refine XS.dup X4.here hx rfl (hb hby at_272) rfl rfl ?_
  refine st5.trans ?_
  show Steps _ _ _ (T5.setTop (mkF m 276 (lA15 p1 p2 p3 p4 bT bF bG nn tF tG tH tA fa ff fg dd fh) [(.ref tt)])) _
  refine XS.astore X5.here hx rfl (hb hby at_276) rfl rfl (l' := (lA16 p1 p2 p3 p4 bT bF bG nn tF tG tH tA fa ff fg dd fh tt)) rfl ?_
  show Steps _ _ _ (T5.setTop (mkF m 278 (lA16 p1 p2 p3 p4 bT bF bG nn tF tG tH tA fa ff fg dd fh tt) [])) _
  exact kt
theorem own_txt.K {Z : State} {h h' : Heap} {t : Addr} {u : Int32} (S : own_txt Z h t u) (K : Keep h h' []) : own_txt Z h' t u := by
  obtain ⟨b, k, e, f1, f2, v⟩ := S
  exact ⟨b, k, e.keep K, f1.keep K nin0, f2.keep K nin0, v.keep K nin0⟩
theorem own_cl (x : Int32) : ¬ (255 : Int32) < ((x &&& (255 : Int32)).toUInt32.toUInt16.toUInt32.toInt32) := by
  have hb : (x &&& (255 : Int32)).toUInt32.toNat < 256 := by
    show (x.toUInt32 &&& (255 : Int32).toUInt32).toNat < 256
    rw [UInt32.toNat_and]
    exact Nat.lt_of_le_of_lt Nat.and_le_right (by decide)
  generalize (x &&& (255 : Int32)).toUInt32 = y at hb
  have hy : y = UInt32.ofNat y.toNat := UInt32.ofNat_toNat.symm
  rw [hy]
  generalize y.toNat = k at hb
  have q : ∀ j : Fin 256, ¬ (255 : Int32) < ((UInt32.ofNat j.val).toUInt16.toUInt32.toInt32) := by decide +kernel
  exact q ⟨k, hb⟩
theorem own_K0b {p : Program} {l : Launch} {e : Env} {s : State} {m : MethodId} {args : Array Value} {below : List Frame} {meth : Method} {c : Code} {s₁ : State} {SS : Spec} {Z : State} {a0 : Array Value} {TT : State} {vm : Vm} {LL : List Loc} {ks : Nat} {p1 : Int32} {p2 : Int32} {p3 : Int32} {p4 : Int32} {bT : Int32} {bF : Int32} {bG : Int32} {nn : Int32} {tF : Addr} {tG : Addr} {tH : Addr} {tA : Addr} {fa : Addr} {ff : Addr} {uF : Int32} {uG : Int32} {uH : Int32} {uA : Int32} {dF : Value} {z6 : Int32} {z7 : Int32} {h0 : Heap} {cs : Int32} {d1 : Addr} {d2 : Addr} {kd1 : ClassId} {kd2 : ClassId} {vo : List Value} {vt : List Value}
    (hw : ∀ d ∈ tables_1, d.before a0 Z = true)
    (Bd : BodyLoose p l x SS code maxLocals ret e s m args below meth c s₁)
    (hml : c.maxLocals = 22)
    (X0 : Stand p l e room_1 (s.setVm vm) m args below meth c TT LL 14 100)
    (hS : s.Since vm ks)
    (hk0 : ks ≤ TT.heap.size)
    (hZ : Z.Warmed39 (s.setVm vm).vm)
    (hown : (s.setVm vm).vm.findClass "com/example/hemotide/hemotide/link/TransferRefusePinLaw" = some m.cls)
    (N0 : Fr s.heap.size LL)
    (Z0 : s.heap.size ≤ TT.heap.size)
    (hh : s.heap = h0)
    (hold : ∀ (b : Addr) (cl : Cell), Z.heap[b]? = some cl → h0[b]? = some cl)
    (HC : ∀ q ∈ consts_1, Jvm.Lit.constHeld Z q.1 q.2)
    (HCW : Jvm.Lit.compactW.before a0 Z = true)
    (W0 : own_W h0.size h0 TT.heap)
    (SC : own_S Z h0 h0.size "java/lang/String" "COMPACT_STRINGS" "Z" (.int cs))
    (hcs : ¬ (cs = (0 : Int32)))
    (SO : own_S Z h0 h0.size "java/lang/Integer" "DigitOnes" "[B" (.ref d1))
    (ST : own_S Z h0 h0.size "java/lang/Integer" "DigitTens" "[B" (.ref d2))
    (VO : Arv Z h0 d1 kd1 .byte (100 : Int32) vo (.int (0 : Int32)))
    (VT : Arv Z h0 d2 kd2 .byte (100 : Int32) vt (.int (0 : Int32)))
    (hd1 : d1 < h0.size)
    (hd2 : d2 < h0.size)
    (hnb : h0.size ≤ ff)
    (Hnew : own_new Z TT.heap ff)
    (Fa : own_frm Z TT.heap ff fa (1 : Int64) (0 : Int64) (1 : Int32) tA uA .null)
    (Fe : Fld Z TT.heap fa "com/example/hemotide/hemotide/link/Frame" "endsRecord" "Z" (.int (0 : Int32)))
    (HF : own_tn Z TT.heap ff tF uF)
    (HG : own_tn Z TT.heap ff tG uG)
    (HH : own_tn Z TT.heap ff tH uH)
    (hz6 : z6 = (0 : Int32) ∨ z6 = (1 : Int32))
    (hz7 : z7 = (0 : Int32) ∨ z7 = (1 : Int32))
    (hFd : (bF = (0 : Int32) ∧ dF = .null) ∨ (¬ bF = (0 : Int32) ∧ ∃ ba : Addr, dF = .ref ba))
    (hne1 : tH ≠ tF)
    (hne2 : tH ≠ tG)
    (hIB : (dF = .null ∧ IB Z vm []) ∨ (∃ ba : Addr, dF = .ref ba ∧ IB Z vm [own_T305] ∧ Lit (s.setVm vm) "com/example/hemotide/hemotide/link/TransferRefusePinLaw" 24 ba)) : own_End p e below s TT (mkF m 172 (lA11 p1 p2 p3 p4 bT bF bG nn tF tG tH tA fa) [dF, (.int z7), (.int z6), (.ref tF), (.int p2), (.long (11 : Int64)), (.long (10 : Int64)), (.long (2 : Int64)), (.ref ff), (.ref ff)]) := by
  have hx := Bd.exec
  have hZa := hZ
  have howna := hown
  have hby : c.code = code := Bd.bytes
  have own_wS : ∀ d ∈ Bundle.stringAtoms, d.before a0 Z = true := own_wSof hw
  obtain ⟨n0, hn0⟩ : ∃ z, z = s.heap.size := ⟨_, rfl⟩
  rw [← hn0] at N0 Z0
  obtain ⟨NfE, Nf0, Nf1, Nf2, Nf3, Nf4, Nf5, Nf6, Nf7⟩ := Hnew
  have w_ff := Nat.le_refl ff
  have g_ff : n0 ≤ ff := Nat.le_trans (Nat.le_of_eq (by rw [hn0, hh])) hnb
  have hdv : dF.isRef = true := by rcases hFd with ⟨-, q⟩ | ⟨-, _, q⟩ <;> rw [q] <;> rfl
  obtain ⟨_, _, ⟨T1, L1, k1, n1⟩, -, X1, ⟨Lc1, hQ1, l1, y1, z1⟩, st1⟩ := X0.specialBack hx (y := mn1) rfl hown (mvT hZ (wJ hw 29 rfl)) (mvT hZ (wJ hw 30 rfl)) (mvT hZ (wJ hw 31 rfl)) (by decide) (backOf (W := 1) (own_fri l Z a0 hw [] ff (2 : Int64) (10 : Int64) (11 : Int64) p2 tF z6 z7 dF  TT.heap n0 Z0 Nf0 Nf1 Nf2 Nf3 Nf4 Nf5 Nf6 Nf7 NfE g_ff hz6 hz7 hdv) hZ (wJ hw 31 rfl) (wJ hw 28 rfl) (by decide) (by decide)) (g := (mkF m 172 (lA11 p1 p2 p3 p4 bT bF bG nn tF tG tH tA fa) [dF, (.int z7), (.int z6), (.ref tF), (.int p2), (.long (11 : Int64)), (.long (10 : Int64)), (.long (2 : Int64)), (.ref ff), (.ref ff)])) rfl (by rw [hml]; rfl) (Steps.refl _) (a := ff) (argsL := [(.long (2 : Int64)), (.long (10 : Int64)), (.long (11 : Int64)), (.int p2), (.ref tF), (.int z6), (.int z7), dF]) (rest := [(.ref ff)]) (lenOf pd__JJJILjava_lang_String_ZZLjava_lang_String__V rfl) rfl (by show 2 * 0 + _ ≤ _; exact Nat.le_of_eq rfl) (hb hby at_172) (fun _ _ => ⟨rfl, rfl, (by decide : 14 + 0 ≤ _), (by decide : 100 + 0 ≤ _)⟩)
  dsimp only [Pt.U, Pt.locs, Pt.cells, Pt.slots] at X1 l1 y1 z1 st1 hQ1
  replace X1 := X1.more (Nat.le_of_eq (show k1 = 14 from y1)) (Nat.le_of_eq (show n1 = 100 from z1))
  obtain ⟨rfl, Nq1, Kq1, Gf0, Gf1, Gf2, Gf3, Gf4, Gf5, Gf6, Gf7⟩ := hQ1
  have Z1 : n0 ≤ T1.heap.size := Nat.le_trans Z0 Kq1.1
  have hk1 : ks ≤ T1.heap.size := Nat.le_trans hk0 Kq1.1
  have WW1 : own_W ff TT.heap T1.heap := own_W.keep (own_W.refl ff TT.heap) Kq1 (allS w_ff all0)
  have N1 : Fr n0 L1 := by rw [l1]; exact Fr.app N0 Nq1
  obtain ⟨T2, h2, X2, e2, E2, A2, D2, -, st2⟩ := newO X1 hx hZ hown (wJ hw 26 rfl) (wJ hw 27 rfl) (wJ hw 28 rfl) rfl (g := (mkF m 177 (lA12 p1 p2 p3 p4 bT bF bG nn tF tG tH tA fa ff) [])) rfl (hb hby at_177) (by decide) (by decide)
  obtain ⟨fg, g2⟩ : ∃ z, z = T1.heap.size := ⟨_, rfl⟩
  rw [← g2] at A2 D2 st2
  have g_fg : n0 ≤ fg := Nat.le_trans Z1 (Nat.le_of_eq g2.symm)
  have sz_fg : TT.heap.size ≤ fg := Nat.le_trans WW1.size (Nat.le_of_eq g2.symm)
  have Z2 : n0 ≤ h2.size := Nat.le_trans Z1 E2.1
  have hk2 : ks ≤ h2.size := Nat.le_trans hk1 E2.1
  have WW2 : own_W ff TT.heap h2 := own_W.ext WW1 E2
  have F_position_fg : Fld Z h2 fg "com/example/hemotide/hemotide/link/Frame" "position" "J" (.long (0 : Int64)) := D2 (Or.inr (wJ hw 39 rfl)) (ty := .long) (by decide)
  have F_offset_fg : Fld Z h2 fg "com/example/hemotide/hemotide/link/Frame" "offset" "J" (.long (0 : Int64)) := D2 (Or.inr (wJ hw 41 rfl)) (ty := .long) (by decide)
  have F_end_fg : Fld Z h2 fg "com/example/hemotide/hemotide/link/Frame" "end" "J" (.long (0 : Int64)) := D2 (Or.inr (wJ hw 43 rfl)) (ty := .long) (by decide)
  have F_number_fg : Fld Z h2 fg "com/example/hemotide/hemotide/link/Frame" "number" "I" (.int (0 : Int32)) := D2 (Or.inr (wJ hw 45 rfl)) (ty := .int) (by decide)
  have F_text_fg : Fld Z h2 fg "com/example/hemotide/hemotide/link/Frame" "text" "Ljava/lang/String;" .null := D2 (Or.inr (wJ hw 47 rfl)) (ty := (.object "java/lang/String")) (by decide)
  have F_endsRecord_fg : Fld Z h2 fg "com/example/hemotide/hemotide/link/Frame" "endsRecord" "Z" (.int (0 : Int32)) := D2 (Or.inr (wJ hw 49 rfl)) (ty := .boolean) (by decide)
  have F_complete_fg : Fld Z h2 fg "com/example/hemotide/hemotide/link/Frame" "complete" "Z" (.int (0 : Int32)) := D2 (Or.inr (wJ hw 51 rfl)) (ty := .boolean) (by decide)
  have F_defect_fg : Fld Z h2 fg "com/example/hemotide/hemotide/link/Frame" "defect" "Ljava/lang/String;" .null := D2 (Or.inr (wJ hw 53 rfl)) (ty := (.object "java/lang/String")) (by decide)
  have w_fg : ff ≤ fg := Nat.le_trans (Nat.le_of_lt NfE.lt) sz_fg
  have l_fg : ff < fg := Nat.lt_of_lt_of_le NfE.lt sz_fg
  obtain ⟨za, hza, rza⟩ : ∃ z : Int32, (z = (0 : Int32) ∨ z = (1 : Int32)) ∧ (((p1 &&& (128 : Int32)) = (0 : Int32) ∧ z = (0 : Int32)) ∨ (¬ (p1 &&& (128 : Int32)) = (0 : Int32) ∧ z = (1 : Int32))) := by
    by_cases q : (p1 &&& (128 : Int32)) = (0 : Int32)
    · exact ⟨0, by decide, Or.inl ⟨q, rfl⟩⟩
    · exact ⟨1, by decide, Or.inr ⟨q, rfl⟩⟩
  have sg_za : ∀ target, Steps p.tables e below (T2.setTop (mkF m 206 (lA12 p1 p2 p3 p4 bT bF bG nn tF tG tH tA fa ff) [(.int za), (.ref tG), (.int p3), (.long (21 : Int64)), (.long (20 : Int64)), (.long (3 : Int64)), (.ref fg), (.ref fg)])) target → Steps p.tables e below (T2.setTop (mkF m 198 (lA12 p1 p2 p3 p4 bT bF bG nn tF tG tH tA fa ff) [(.int (p1 &&& (128 : Int32))), (.ref tG), (.int p3), (.long (21 : Int64)), (.long (20 : Int64)), (.long (3 : Int64)), (.ref fg), (.ref fg)])) target := by
    intro target kt
    rcases rza with ⟨qa, qb⟩ | ⟨qa, qb⟩
    · rw [qb] at kt
      show Steps _ _ _ (T2.setTop (mkF m 198 (lA12 p1 p2 p3 p4 bT bF bG nn tF tG tH tA fa ff) [(.int (p1 &&& (128 : Int32))), (.ref tG), (.int p3), (.long (21 : Int64)), (.long (20 : Int64)), (.long (3 : Int64)), (.ref fg), (.ref fg)])) _
      refine XS.ifYes X2.here hx rfl (pc0 := 198) (pc' := 205) rfl (hb hby at_198) rfl ((if0 _ _).trans (teq (qa : (p1 &&& (128 : Int32)) = (0 : Int32))).1) (by decide) (by decide) ?_
      refine XS.iconst X2.here hx rfl (hb hby at_205) ?_
      show Steps _ _ _ (T2.setTop (mkF m 206 (lA12 p1 p2 p3 p4 bT bF bG nn tF tG tH tA fa ff) [(.int (0 : Int32)), (.ref tG), (.int p3), (.long (21 : Int64)), (.long (20 : Int64)), (.long (3 : Int64)), (.ref fg), (.ref fg)])) _
      exact kt
    · rw [qb] at kt
      show Steps _ _ _ (T2.setTop (mkF m 198 (lA12 p1 p2 p3 p4 bT bF bG nn tF tG tH tA fa ff) [(.int (p1 &&& (128 : Int32))), (.ref tG), (.int p3), (.long (21 : Int64)), (.long (20 : Int64)), (.long (3 : Int64)), (.ref fg), (.ref fg)])) _
      refine XS.ifNo X2.here hx rfl (hb hby at_198) rfl ((if0 _ _).trans (feq (qa : ¬ ((p1 &&& (128 : Int32)) = (0 : Int32)))).1) ?_
      refine XS.iconst X2.here hx rfl (hb hby at_201) ?_
      refine XS.goto X2.here hx rfl (pc0 := 202) (pc' := 206) rfl (hb hby at_202) (by decide) (by decide) ?_
      show Steps _ _ _ (T2.setTop (mkF m 206 (lA12 p1 p2 p3 p4 bT bF bG nn tF tG tH tA fa ff) [(.int (1 : Int32)), (.ref tG), (.int p3), (.long (21 : Int64)), (.long (20 : Int64)), (.long (3 : Int64)), (.ref fg), (.ref fg)])) _
      exact kt
  obtain ⟨zb, hzb, rzb⟩ : ∃ z : Int32, (z = (0 : Int32) ∨ z = (1 : Int32)) ∧ ((bG = (0 : Int32) ∧ z = (1 : Int32)) ∨ (¬ bG = (0 : Int32) ∧ z = (0 : Int32))) := by
    by_cases q : bG = (0 : Int32)
    · exact ⟨1, by decide, Or.inl ⟨q, rfl⟩⟩
    · exact ⟨0, by decide, Or.inr ⟨q, rfl⟩⟩
  have sg_zb : ∀ target, Steps p.tables e below (T2.setTop (mkF m 216 (lA12 p1 p2 p3 p4 bT bF bG nn tF tG tH tA fa ff) [(.int zb), (.int za), (.ref tG), (.int p3), (.long (21 : Int64)), (.long (20 : Int64)), (.long (3 : Int64)), (.ref fg), (.ref fg)])) target → Steps p.tables e below (T2.setTop (mkF m 208 (lA12 p1 p2 p3 p4 bT bF bG nn tF tG tH tA fa ff) [(.int bG), (.int za), (.ref tG), (.int p3), (.long (21 : Int64)), (.long (20 : Int64)), (.long (3 : Int64)), (.ref fg), (.ref fg)])) target := by
    intro target kt
    rcases rzb with ⟨qa, qb⟩ | ⟨qa, qb⟩
    · rw [qb] at kt
      show Steps _ _ _ (T2.setTop (mkF m 208 (lA12 p1 p2 p3 p4 bT bF bG nn tF tG tH tA fa ff) [(.int bG), (.int za), (.ref tG), (.int p3), (.long (21 : Int64)), (.long (20 : Int64)), (.long (3 : Int64)), (.ref fg), (.ref fg)])) _
      refine XS.ifNo X2.here hx rfl (hb hby at_208) rfl ((if0 _ _).trans (teq (qa : bG = (0 : Int32))).2) ?_
      refine XS.iconst X2.here hx rfl (hb hby at_211) ?_
      refine XS.goto X2.here hx rfl (pc0 := 212) (pc' := 216) rfl (hb hby at_212) (by decide) (by decide) ?_
      show Steps _ _ _ (T2.setTop (mkF m 216 (lA12 p1 p2 p3 p4 bT bF bG nn tF tG tH tA fa ff) [(.int (1 : Int32)), (.int za), (.ref tG), (.int p3), (.long (21 : Int64)), (.long (20 : Int64)), (.long (3 : Int64)), (.ref fg), (.ref fg)])) _
      exact kt
    · rw [qb] at kt
      show Steps _ _ _ (T2.setTop (mkF m 208 (lA12 p1 p2 p3 p4 bT bF bG nn tF tG tH tA fa ff) [(.int bG), (.int za), (.ref tG), (.int p3), (.long (21 : Int64)), (.long (20 : Int64)), (.long (3 : Int64)), (.ref fg), (.ref fg)])) _
      refine XS.ifYes X2.here hx rfl (pc0 := 208) (pc' := 215) rfl (hb hby at_208) rfl ((if0 _ _).trans (feq (qa : ¬ (bG = (0 : Int32)))).2) (by decide) (by decide) ?_
      refine XS.iconst X2.here hx rfl (hb hby at_215) ?_
      show Steps _ _ _ (T2.setTop (mkF m 216 (lA12 p1 p2 p3 p4 bT bF bG nn tF tG tH tA fa ff) [(.int (0 : Int32)), (.int za), (.ref tG), (.int p3), (.long (21 : Int64)), (.long (20 : Int64)), (.long (3 : Int64)), (.ref fg), (.ref fg)])) _
      exact kt
  by_cases hb6 : bG = (0 : Int32)
  · have IBs : IB Z vm [own_T305] := hIB.elim (fun q => own_IBmono q.2 (fun t ht => by cases ht)) (fun ⟨_, _, q, _⟩ => q)
    have F1 : own_frm Z h2 fg fa (1 : Int64) (0 : Int64) (1 : Int32) tA uA .null := (Fa.W WW2).mono w_fg
    have F3 : Fld Z h2 fa "com/example/hemotide/hemotide/link/Frame" "endsRecord" "Z" (.int (0 : Int32)) := own_W.fld Fe (by obtain ⟨_, _, _, _, _, _, _, q⟩ := Fa; exact q) WW2
    have fc3 := ((NfE.keep Kq1).ext E2)
    have fc4 := (Gf0.ext E2)
    have fc5 := (Gf1.ext E2)
    have fc6 := (Gf3.ext E2)
    have fc7 := (Gf4.ext E2)
    have fc8 := (Gf7.ext E2)
    refine own_End.by (g' := (mkF m 227 (lA12 p1 p2 p3 p4 bT bF bG nn tF tG tH tA fa ff) [.null, (.int zb), (.int za), (.ref tG), (.int p3), (.long (21 : Int64)), (.long (20 : Int64)), (.long (3 : Int64)), (.ref fg), (.ref fg)])) (own_K0c hw Bd hml (X2.more (by decide : 15 ≤ 20) (by decide : 108 ≤ 200)) hS (by rw [e2]; exact hk2) hZ hown (hn0 ▸ N1) (hn0 ▸ (by rw [e2]; exact Z2)) IBs hh hold HC HCW (by rw [e2]; exact (own_W.trans W0 (own_W.mono hnb WW2))) SC hcs SO ST VO VT hd1 hd2 (Nat.le_trans hnb w_fg) (by rw [e2]; exact ⟨A2, F_position_fg, F_offset_fg, F_end_fg, F_number_fg, F_text_fg, F_endsRecord_fg, F_complete_fg, F_defect_fg⟩) (by rw [e2]; exact F1) (by rw [e2]; exact F3) (by rw [e2]; exact ⟨fc3, fc4, fc5, fc6, fc7, fc8, ((HF.W WW2).mono w_fg), l_fg⟩) (by rw [e2]; exact ((HG.W WW2).mono w_fg)) (by rw [e2]; exact ((HH.W WW2).mono w_fg)) hza hzb hFd (Or.inl ⟨hb6, rfl⟩) hne1 hne2) ?_
    intro tg kt
    show Steps _ _ _ (TT.setTop (mkF m 172 (lA11 p1 p2 p3 p4 bT bF bG nn tF tG tH tA fa) [dF, (.int z7), (.int z6), (.ref tF), (.int p2), (.long (11 : Int64)), (.long (10 : Int64)), (.long (2 : Int64)), (.ref ff), (.ref ff)])) _
    refine st1.trans ?_
    refine XS.astore X1.here hx rfl (hb hby at_175) rfl rfl (l' := (lA12 p1 p2 p3 p4 bT bF bG nn tF tG tH tA fa ff)) rfl ?_
    refine st2 _ ?_
    refine XS.dup X2.here hx rfl (hb hby at_180) rfl rfl ?_
    show Steps _ _ _ (T2.setTop (mkF m 181 (lA12 p1 p2 p3 p4 bT bF bG nn tF tG tH tA fa ff) [(.ref fg), (.ref fg)])) _
    refine X2.ldc2Long hx howna (mvT hZa (wJ hw 57 rfl)) (g := (mkF m 181 (lA12 p1 p2 p3 p4 bT bF bG nn tF tG tH tA fa ff) [(.ref fg), (.ref fg)])) rfl (hb hby at_181) _ ?_
    refine X2.ldc2Long hx howna (mvT hZa (wJ hw 58 rfl)) (g := (mkF m 184 (lA12 p1 p2 p3 p4 bT bF bG nn tF tG tH tA fa ff) [(.long (3 : Int64)), (.ref fg), (.ref fg)])) rfl (hb hby at_184) _ ?_
    refine X2.ldc2Long hx howna (mvT hZa (wJ hw 59 rfl)) (g := (mkF m 187 (lA12 p1 p2 p3 p4 bT bF bG nn tF tG tH tA fa ff) [(.long (20 : Int64)), (.long (3 : Int64)), (.ref fg), (.ref fg)])) rfl (hb hby at_187) _ ?_
    refine XS.iloadN X2.here hx rfl (hb hby at_190) rfl ?_
    show Steps _ _ _ (T2.setTop (mkF m 191 (lA12 p1 p2 p3 p4 bT bF bG nn tF tG tH tA fa ff) [(.int p3), (.long (21 : Int64)), (.long (20 : Int64)), (.long (3 : Int64)), (.ref fg), (.ref fg)])) _
    refine XS.aload X2.here hx rfl (hb hby at_191) rfl rfl ?_
    refine XS.iloadN X2.here hx rfl (hb hby at_193) rfl ?_
    refine XS.sipush X2.here hx rfl (hb hby at_194) ?_
    refine XS.iand X2.here hx rfl (hb hby at_197) rfl ?_
    show Steps _ _ _ (T2.setTop (mkF m 198 (lA12 p1 p2 p3 p4 bT bF bG nn tF tG tH tA fa ff) [(.int (p1 &&& (128 : Int32))), (.ref tG), (.int p3), (.long (21 : Int64)), (.long (20 : Int64)), (.long (3 : Int64)), (.ref fg), (.ref fg)])) _
    refine sg_za _ ?_
    refine XS.iload X2.here hx rfl (hb hby at_206) rfl ?_
    refine sg_zb _ ?_
    refine XS.iload X2.here hx rfl (hb hby at_216) rfl ?_
    show Steps _ _ _ (T2.setTop (mkF m 218 (lA12 p1 p2 p3 p4 bT bF bG nn tF tG tH tA fa ff) [(.int bG), (.int zb), (.int za), (.ref tG), (.int p3), (.long (21 : Int64)), (.long (20 : Int64)), (.long (3 : Int64)), (.ref fg), (.ref fg)])) _
    refine XS.ifYes X2.here hx rfl (pc0 := 218) (pc' := 226) rfl (hb hby at_218) rfl ((if0 _ _).trans (teq (hb6 : bG = (0 : Int32))).1) (by decide) (by decide) ?_
    refine XS.aconstNull X2.here hx rfl (hb hby at_226) ?_
    show Steps _ _ _ (T2.setTop (mkF m 227 (lA12 p1 p2 p3 p4 bT bF bG nn tF tG tH tA fa ff) [.null, (.int zb), (.int za), (.ref tG), (.int p3), (.long (21 : Int64)), (.long (20 : Int64)), (.long (3 : Int64)), (.ref fg), (.ref fg)])) _
    exact kt
  · rcases hIB with ⟨hd, IBs⟩ | ⟨ba, hd, IBs, hL⟩
    · obtain ⟨sa9, T9, h9, ks, sb9, sk9, X9, e9, E9, hS, hks9, hZ, hown, Ea9, Fc9, Fv9, V9, lta9, ltb9, IBs, Lit9, st9⟩ := ldcSVL (text := own_T305) X2 hx hZ hown (wJ hw 305 rfl) own_wS e2 hS hk2 (hn0 ▸ N1) (fun b cl q => by rw [hh]; exact hold b cl q) IBs (by decide +kernel) (HC _ (wI 5 rfl)) HCW (vs := own_vs own_T305) (z := (3 : Int32)) (own_ht (by decide +kernel)) (by decide) (by decide +kernel) (g := (mkF m 221 (lA12 p1 p2 p3 p4 bT bF bG nn tF tG tH tA fa ff) [(.int zb), (.int za), (.ref tG), (.int p3), (.long (21 : Int64)), (.long (20 : Int64)), (.long (3 : Int64)), (.ref fg), (.ref fg)])) rfl (hb hby at_221) (n := 12) (by decide +kernel) (by decide) (by decide) (by decide)
      have Z9 : n0 ≤ h9.size := Nat.le_trans Z2 E9.1
      have WW9 : own_W ff TT.heap h9 := own_W.ext WW2 E9
      have S9 : own_str Z h9 sa9 (3 : Int32) := ⟨sb9, sk9, _, Ea9, Fv9, Fc9, V9, by decide +kernel⟩
      have F1 : own_frm Z h9 fg fa (1 : Int64) (0 : Int64) (1 : Int32) tA uA .null := (Fa.W WW9).mono w_fg
      have F3 : Fld Z h9 fa "com/example/hemotide/hemotide/link/Frame" "endsRecord" "Z" (.int (0 : Int32)) := own_W.fld Fe (by obtain ⟨_, _, _, _, _, _, _, q⟩ := Fa; exact q) WW9
      have fc10 := (A2.ext E9)
      have fc11 := (F_position_fg.ext E9)
      have fc12 := (F_offset_fg.ext E9)
      have fc13 := (F_end_fg.ext E9)
      have fc14 := (F_number_fg.ext E9)
      have fc15 := (F_text_fg.ext E9)
      have fc16 := (F_endsRecord_fg.ext E9)
      have fc17 := (F_complete_fg.ext E9)
      have fc18 := (F_defect_fg.ext E9)
      have fc19 := (((NfE.keep Kq1).ext E2).ext E9)
      have fc20 := ((Gf0.ext E2).ext E9)
      have fc21 := ((Gf1.ext E2).ext E9)
      have fc22 := ((Gf3.ext E2).ext E9)
      have fc23 := ((Gf4.ext E2).ext E9)
      have fc24 := ((Gf7.ext E2).ext E9)
      refine own_End.by (g' := (mkF m 227 (lA12 p1 p2 p3 p4 bT bF bG nn tF tG tH tA fa ff) [(.ref sa9), (.int zb), (.int za), (.ref tG), (.int p3), (.long (21 : Int64)), (.long (20 : Int64)), (.long (3 : Int64)), (.ref fg), (.ref fg)])) (own_K0c hw Bd hml (X9.more (by decide : 17 ≤ 20) (by decide : 124 ≤ 200)) hS (by rw [e9]; exact hks9) hZ hown (hn0 ▸ N1) (hn0 ▸ (by rw [e9]; exact Z9)) IBs hh hold HC HCW (by rw [e9]; exact (own_W.trans W0 (own_W.mono hnb WW9))) SC hcs SO ST VO VT hd1 hd2 (Nat.le_trans hnb w_fg) (by rw [e9]; exact ⟨fc10, fc11, fc12, fc13, fc14, fc15, fc16, fc17, fc18⟩) (by rw [e9]; exact F1) (by rw [e9]; exact F3) (by rw [e9]; exact ⟨fc19, fc20, fc21, fc22, fc23, fc24, ((HF.W WW9).mono w_fg), l_fg⟩) (by rw [e9]; exact ((HG.W WW9).mono w_fg)) (by rw [e9]; exact ((HH.W WW9).mono w_fg)) hza hzb hFd (Or.inr ⟨hb6, _, rfl⟩) hne1 hne2) ?_
      intro tg kt
      show Steps _ _ _ (TT.setTop (mkF m 172 (lA11 p1 p2 p3 p4 bT bF bG nn tF tG tH tA fa) [dF, (.int z7), (.int z6), (.ref tF), (.int p2), (.long (11 : Int64)), (.long (10 : Int64)), (.long (2 : Int64)), (.ref ff), (.ref ff)])) _
      refine st1.trans ?_
      refine XS.astore X1.here hx rfl (hb hby at_175) rfl rfl (l' := (lA12 p1 p2 p3 p4 bT bF bG nn tF tG tH tA fa ff)) rfl ?_
      refine st2 _ ?_
      refine XS.dup X2.here hx rfl (hb hby at_180) rfl rfl ?_
      show Steps _ _ _ (T2.setTop (mkF m 181 (lA12 p1 p2 p3 p4 bT bF bG nn tF tG tH tA fa ff) [(.ref fg), (.ref fg)])) _
      refine X2.ldc2Long hx howna (mvT hZa (wJ hw 57 rfl)) (g := (mkF m 181 (lA12 p1 p2 p3 p4 bT bF bG nn tF tG tH tA fa ff) [(.ref fg), (.ref fg)])) rfl (hb hby at_181) _ ?_
      refine X2.ldc2Long hx howna (mvT hZa (wJ hw 58 rfl)) (g := (mkF m 184 (lA12 p1 p2 p3 p4 bT bF bG nn tF tG tH tA fa ff) [(.long (3 : Int64)), (.ref fg), (.ref fg)])) rfl (hb hby at_184) _ ?_
      refine X2.ldc2Long hx howna (mvT hZa (wJ hw 59 rfl)) (g := (mkF m 187 (lA12 p1 p2 p3 p4 bT bF bG nn tF tG tH tA fa ff) [(.long (20 : Int64)), (.long (3 : Int64)), (.ref fg), (.ref fg)])) rfl (hb hby at_187) _ ?_
      refine XS.iloadN X2.here hx rfl (hb hby at_190) rfl ?_
      show Steps _ _ _ (T2.setTop (mkF m 191 (lA12 p1 p2 p3 p4 bT bF bG nn tF tG tH tA fa ff) [(.int p3), (.long (21 : Int64)), (.long (20 : Int64)), (.long (3 : Int64)), (.ref fg), (.ref fg)])) _
      refine XS.aload X2.here hx rfl (hb hby at_191) rfl rfl ?_
      refine XS.iloadN X2.here hx rfl (hb hby at_193) rfl ?_
      refine XS.sipush X2.here hx rfl (hb hby at_194) ?_
      refine XS.iand X2.here hx rfl (hb hby at_197) rfl ?_
      show Steps _ _ _ (T2.setTop (mkF m 198 (lA12 p1 p2 p3 p4 bT bF bG nn tF tG tH tA fa ff) [(.int (p1 &&& (128 : Int32))), (.ref tG), (.int p3), (.long (21 : Int64)), (.long (20 : Int64)), (.long (3 : Int64)), (.ref fg), (.ref fg)])) _
      refine sg_za _ ?_
      refine XS.iload X2.here hx rfl (hb hby at_206) rfl ?_
      refine sg_zb _ ?_
      refine XS.iload X2.here hx rfl (hb hby at_216) rfl ?_
      show Steps _ _ _ (T2.setTop (mkF m 218 (lA12 p1 p2 p3 p4 bT bF bG nn tF tG tH tA fa ff) [(.int bG), (.int zb), (.int za), (.ref tG), (.int p3), (.long (21 : Int64)), (.long (20 : Int64)), (.long (3 : Int64)), (.ref fg), (.ref fg)])) _
      refine XS.ifNo X2.here hx rfl (hb hby at_218) rfl ((if0 _ _).trans (feq (hb6 : ¬ (bG = (0 : Int32)))).1) ?_
      refine st9 _ ?_
      refine XS.goto X9.here hx rfl (pc0 := 223) (pc' := 227) rfl (hb hby at_223) (by decide) (by decide) ?_
      show Steps _ _ _ (T9.setTop (mkF m 227 (lA12 p1 p2 p3 p4 bT bF bG nn tF tG tH tA fa ff) [(.ref sa9), (.int zb), (.int za), (.ref tG), (.int p3), (.long (21 : Int64)), (.long (20 : Int64)), (.long (3 : Int64)), (.ref fg), (.ref fg)])) _
      exact kt
    · have stA := ldcAgain X2 hx hZ hown (wJ hw 305 rfl) hL (g := (mkF m 221 (lA12 p1 p2 p3 p4 bT bF bG nn tF tG tH tA fa ff) [(.int zb), (.int za), (.ref tG), (.int p3), (.long (21 : Int64)), (.long (20 : Int64)), (.long (3 : Int64)), (.ref fg), (.ref fg)])) rfl (hb hby at_221)
      have F1 : own_frm Z h2 fg fa (1 : Int64) (0 : Int64) (1 : Int32) tA uA .null := (Fa.W WW2).mono w_fg
      have F3 : Fld Z h2 fa "com/example/hemotide/hemotide/link/Frame" "endsRecord" "Z" (.int (0 : Int32)) := own_W.fld Fe (by obtain ⟨_, _, _, _, _, _, _, q⟩ := Fa; exact q) WW2
      have fc25 := ((NfE.keep Kq1).ext E2)
      have fc26 := (Gf0.ext E2)
      have fc27 := (Gf1.ext E2)
      have fc28 := (Gf3.ext E2)
      have fc29 := (Gf4.ext E2)
      have fc30 := (Gf7.ext E2)
      refine own_End.by (g' := (mkF m 227 (lA12 p1 p2 p3 p4 bT bF bG nn tF tG tH tA fa ff) [(.ref ba), (.int zb), (.int za), (.ref tG), (.int p3), (.long (21 : Int64)), (.long (20 : Int64)), (.long (3 : Int64)), (.ref fg), (.ref fg)])) (own_K0c hw Bd hml (X2.more (by decide : 15 ≤ 20) (by decide : 108 ≤ 200)) hS (by rw [e2]; exact hk2) hZ hown (hn0 ▸ N1) (hn0 ▸ (by rw [e2]; exact Z2)) IBs hh hold HC HCW (by rw [e2]; exact (own_W.trans W0 (own_W.mono hnb WW2))) SC hcs SO ST VO VT hd1 hd2 (Nat.le_trans hnb w_fg) (by rw [e2]; exact ⟨A2, F_position_fg, F_offset_fg, F_end_fg, F_number_fg, F_text_fg, F_endsRecord_fg, F_complete_fg, F_defect_fg⟩) (by rw [e2]; exact F1) (by rw [e2]; exact F3) (by rw [e2]; exact ⟨fc25, fc26, fc27, fc28, fc29, fc30, ((HF.W WW2).mono w_fg), l_fg⟩) (by rw [e2]; exact ((HG.W WW2).mono w_fg)) (by rw [e2]; exact ((HH.W WW2).mono w_fg)) hza hzb hFd (Or.inr ⟨hb6, _, rfl⟩) hne1 hne2) ?_
      intro tg kt
      show Steps _ _ _ (TT.setTop (mkF m 172 (lA11 p1 p2 p3 p4 bT bF bG nn tF tG tH tA fa) [dF, (.int z7), (.int z6), (.ref tF), (.int p2), (.long (11 : Int64)), (.long (10 : Int64)), (.long (2 : Int64)), (.ref ff), (.ref ff)])) _
      refine st1.trans ?_
      refine XS.astore X1.here hx rfl (hb hby at_175) rfl rfl (l' := (lA12 p1 p2 p3 p4 bT bF bG nn tF tG tH tA fa ff)) rfl ?_
      refine st2 _ ?_
      refine XS.dup X2.here hx rfl (hb hby at_180) rfl rfl ?_
      show Steps _ _ _ (T2.setTop (mkF m 181 (lA12 p1 p2 p3 p4 bT bF bG nn tF tG tH tA fa ff) [(.ref fg), (.ref fg)])) _
      refine X2.ldc2Long hx howna (mvT hZa (wJ hw 57 rfl)) (g := (mkF m 181 (lA12 p1 p2 p3 p4 bT bF bG nn tF tG tH tA fa ff) [(.ref fg), (.ref fg)])) rfl (hb hby at_181) _ ?_
      refine X2.ldc2Long hx howna (mvT hZa (wJ hw 58 rfl)) (g := (mkF m 184 (lA12 p1 p2 p3 p4 bT bF bG nn tF tG tH tA fa ff) [(.long (3 : Int64)), (.ref fg), (.ref fg)])) rfl (hb hby at_184) _ ?_
      refine X2.ldc2Long hx howna (mvT hZa (wJ hw 59 rfl)) (g := (mkF m 187 (lA12 p1 p2 p3 p4 bT bF bG nn tF tG tH tA fa ff) [(.long (20 : Int64)), (.long (3 : Int64)), (.ref fg), (.ref fg)])) rfl (hb hby at_187) _ ?_
      refine XS.iloadN X2.here hx rfl (hb hby at_190) rfl ?_
      show Steps _ _ _ (T2.setTop (mkF m 191 (lA12 p1 p2 p3 p4 bT bF bG nn tF tG tH tA fa ff) [(.int p3), (.long (21 : Int64)), (.long (20 : Int64)), (.long (3 : Int64)), (.ref fg), (.ref fg)])) _
      refine XS.aload X2.here hx rfl (hb hby at_191) rfl rfl ?_
      refine XS.iloadN X2.here hx rfl (hb hby at_193) rfl ?_
      refine XS.sipush X2.here hx rfl (hb hby at_194) ?_
      refine XS.iand X2.here hx rfl (hb hby at_197) rfl ?_
      show Steps _ _ _ (T2.setTop (mkF m 198 (lA12 p1 p2 p3 p4 bT bF bG nn tF tG tH tA fa ff) [(.int (p1 &&& (128 : Int32))), (.ref tG), (.int p3), (.long (21 : Int64)), (.long (20 : Int64)), (.long (3 : Int64)), (.ref fg), (.ref fg)])) _
      refine sg_za _ ?_
      refine XS.iload X2.here hx rfl (hb hby at_206) rfl ?_
      refine sg_zb _ ?_
      refine XS.iload X2.here hx rfl (hb hby at_216) rfl ?_
      show Steps _ _ _ (T2.setTop (mkF m 218 (lA12 p1 p2 p3 p4 bT bF bG nn tF tG tH tA fa ff) [(.int bG), (.int zb), (.int za), (.ref tG), (.int p3), (.long (21 : Int64)), (.long (20 : Int64)), (.long (3 : Int64)), (.ref fg), (.ref fg)])) _
      refine XS.ifNo X2.here hx rfl (hb hby at_218) rfl ((if0 _ _).trans (feq (hb6 : ¬ (bG = (0 : Int32)))).1) ?_
      refine stA _ ?_
      refine XS.goto X2.here hx rfl (pc0 := 223) (pc' := 227) rfl (hb hby at_223) (by decide) (by decide) ?_
      show Steps _ _ _ (T2.setTop (mkF m 227 (lA12 p1 p2 p3 p4 bT bF bG nn tF tG tH tA fa ff) [(.ref ba), (.int zb), (.int za), (.ref tG), (.int p3), (.long (21 : Int64)), (.long (20 : Int64)), (.long (3 : Int64)), (.ref fg), (.ref fg)])) _
      exact kt
theorem own_K0a {p : Program} {l : Launch} {e : Env} {s : State} {m : MethodId} {args : Array Value} {below : List Frame} {meth : Method} {c : Code} {s₁ : State} {SS : Spec} {Z : State} {a0 : Array Value} {TT : State} {vm : Vm} {LL : List Loc} {ks : Nat} {p1 : Int32} {p2 : Int32} {p3 : Int32} {p4 : Int32} {bT : Int32} {bF : Int32} {bG : Int32} {nn : Int32} {tF : Addr} {tG : Addr} {tH : Addr} {tA : Addr} {uF : Int32} {uG : Int32} {uH : Int32} {uA : Int32} {h0 : Heap} {cs : Int32} {d1 : Addr} {d2 : Addr} {kd1 : ClassId} {kd2 : ClassId} {vo : List Value} {vt : List Value}
    (hw : ∀ d ∈ tables_1, d.before a0 Z = true)
    (Bd : BodyLoose p l x SS code maxLocals ret e s m args below meth c s₁)
    (hml : c.maxLocals = 22)
    (X0 : Stand p l e room_1 (s.setVm vm) m args below meth c TT LL 8 40)
    (hS : s.Since vm ks)
    (hk0 : ks ≤ TT.heap.size)
    (hZ : Z.Warmed39 (s.setVm vm).vm)
    (hown : (s.setVm vm).vm.findClass "com/example/hemotide/hemotide/link/TransferRefusePinLaw" = some m.cls)
    (N0 : Fr s.heap.size LL)
    (Z0 : s.heap.size ≤ TT.heap.size)
    (IBs : IB Z vm [])
    (hh : s.heap = h0)
    (hold : ∀ (b : Addr) (cl : Cell), Z.heap[b]? = some cl → h0[b]? = some cl)
    (HC : ∀ q ∈ consts_1, Jvm.Lit.constHeld Z q.1 q.2)
    (HCW : Jvm.Lit.compactW.before a0 Z = true)
    (W0 : own_W h0.size h0 TT.heap)
    (SC : own_S Z h0 h0.size "java/lang/String" "COMPACT_STRINGS" "Z" (.int cs))
    (hcs : ¬ (cs = (0 : Int32)))
    (SO : own_S Z h0 h0.size "java/lang/Integer" "DigitOnes" "[B" (.ref d1))
    (ST : own_S Z h0 h0.size "java/lang/Integer" "DigitTens" "[B" (.ref d2))
    (VO : Arv Z h0 d1 kd1 .byte (100 : Int32) vo (.int (0 : Int32)))
    (VT : Arv Z h0 d2 kd2 .byte (100 : Int32) vt (.int (0 : Int32)))
    (hd1 : d1 < h0.size)
    (hd2 : d2 < h0.size)
    (SF : own_txt Z TT.heap tF uF)
    (SG : own_txt Z TT.heap tG uG)
    (SH : own_txt Z TT.heap tH uH)
    (SA : own_txt Z TT.heap tA uA)
    (hne1 : tH ≠ tF)
    (hne2 : tH ≠ tG) : own_End p e below s TT (mkF m 105 (lA10 p1 p2 p3 p4 bT bF bG nn tF tG tH tA) []) := by
  have hx := Bd.exec
  have hZa := hZ
  have howna := hown
  have hby : c.code = code := Bd.bytes
  have own_wS : ∀ d ∈ Bundle.stringAtoms, d.before a0 Z = true := own_wSof hw
  obtain ⟨n0, hn0⟩ : ∃ z, z = s.heap.size := ⟨_, rfl⟩
  rw [← hn0] at N0 Z0
  have hnb := W0.size
  obtain ⟨T1, h1, X1, e1, E1, A1, D1, -, st1⟩ := newO X0 hx hZ hown (wJ hw 26 rfl) (wJ hw 27 rfl) (wJ hw 28 rfl) rfl (g := (mkF m 105 (lA10 p1 p2 p3 p4 bT bF bG nn tF tG tH tA) [])) rfl (hb hby at_105) (by decide) (by decide)
  obtain ⟨fa, g1⟩ : ∃ z, z = TT.heap.size := ⟨_, rfl⟩
  rw [← g1] at A1 D1 st1
  have g_fa : n0 ≤ fa := Nat.le_trans Z0 (Nat.le_of_eq g1.symm)
  have sz_fa : TT.heap.size ≤ fa := Nat.le_trans (own_W.refl TT.heap.size TT.heap).size (Nat.le_of_eq g1.symm)
  have Z1 : n0 ≤ h1.size := Nat.le_trans Z0 E1.1
  have hk1 : ks ≤ h1.size := Nat.le_trans hk0 E1.1
  have WW1 : own_W TT.heap.size TT.heap h1 := own_W.ext (own_W.refl TT.heap.size TT.heap) E1
  have F_position_fa : Fld Z h1 fa "com/example/hemotide/hemotide/link/Frame" "position" "J" (.long (0 : Int64)) := D1 (Or.inr (wJ hw 39 rfl)) (ty := .long) (by decide)
  have F_offset_fa : Fld Z h1 fa "com/example/hemotide/hemotide/link/Frame" "offset" "J" (.long (0 : Int64)) := D1 (Or.inr (wJ hw 41 rfl)) (ty := .long) (by decide)
  have F_end_fa : Fld Z h1 fa "com/example/hemotide/hemotide/link/Frame" "end" "J" (.long (0 : Int64)) := D1 (Or.inr (wJ hw 43 rfl)) (ty := .long) (by decide)
  have F_number_fa : Fld Z h1 fa "com/example/hemotide/hemotide/link/Frame" "number" "I" (.int (0 : Int32)) := D1 (Or.inr (wJ hw 45 rfl)) (ty := .int) (by decide)
  have F_text_fa : Fld Z h1 fa "com/example/hemotide/hemotide/link/Frame" "text" "Ljava/lang/String;" .null := D1 (Or.inr (wJ hw 47 rfl)) (ty := (.object "java/lang/String")) (by decide)
  have F_endsRecord_fa : Fld Z h1 fa "com/example/hemotide/hemotide/link/Frame" "endsRecord" "Z" (.int (0 : Int32)) := D1 (Or.inr (wJ hw 49 rfl)) (ty := .boolean) (by decide)
  have F_complete_fa : Fld Z h1 fa "com/example/hemotide/hemotide/link/Frame" "complete" "Z" (.int (0 : Int32)) := D1 (Or.inr (wJ hw 51 rfl)) (ty := .boolean) (by decide)
  have F_defect_fa : Fld Z h1 fa "com/example/hemotide/hemotide/link/Frame" "defect" "Ljava/lang/String;" .null := D1 (Or.inr (wJ hw 53 rfl)) (ty := (.object "java/lang/String")) (by decide)
  have w_fa := sz_fa
  obtain ⟨_, _, ⟨T2, L2, k2, n2⟩, -, X2, ⟨Lc2, hQ2, l2, y2, z2⟩, st2⟩ := X1.specialBack hx (y := mn1) rfl hown (mvT hZ (wJ hw 29 rfl)) (mvT hZ (wJ hw 30 rfl)) (mvT hZ (wJ hw 31 rfl)) (by decide) (backOf (W := 1) (own_fri l Z a0 hw [] fa (1 : Int64) (0 : Int64) (1 : Int64) (1 : Int32) tA (0 : Int32) (1 : Int32) .null h1 n0 Z1 F_position_fa F_offset_fa F_end_fa F_number_fa F_text_fa F_endsRecord_fa F_complete_fa F_defect_fa A1 g_fa (Or.inl rfl) (Or.inr rfl) rfl) hZ (wJ hw 31 rfl) (wJ hw 28 rfl) (by decide) (by decide)) (g := (mkF m 118 (lA10 p1 p2 p3 p4 bT bF bG nn tF tG tH tA) [.null, (.int (1 : Int32)), (.int (0 : Int32)), (.ref tA), (.int (1 : Int32)), (.long (1 : Int64)), (.long (0 : Int64)), (.long (1 : Int64)), (.ref fa), (.ref fa)])) rfl (by rw [hml]; rfl) (Steps.refl _) (a := fa) (argsL := [(.long (1 : Int64)), (.long (0 : Int64)), (.long (1 : Int64)), (.int (1 : Int32)), (.ref tA), (.int (0 : Int32)), (.int (1 : Int32)), .null]) (rest := [(.ref fa)]) (lenOf pd__JJJILjava_lang_String_ZZLjava_lang_String__V rfl) rfl (by show 2 * 0 + _ ≤ _; exact Nat.le_of_eq rfl) (hb hby at_118) (fun _ _ => ⟨rfl, e1, (by decide : 9 + 0 ≤ _), (by decide : 48 + 0 ≤ _)⟩)
  dsimp only [Pt.U, Pt.locs, Pt.cells, Pt.slots] at X2 l2 y2 z2 st2 hQ2
  replace X2 := X2.more (Nat.le_of_eq (show k2 = 9 from y2)) (Nat.le_of_eq (show n2 = 48 from z2))
  obtain ⟨rfl, Nq2, Kq2, Ga0, Ga1, Ga2, Ga3, Ga4, Ga5, Ga6, Ga7⟩ := hQ2
  have Z2 : n0 ≤ T2.heap.size := Nat.le_trans Z1 Kq2.1
  have hk2 : ks ≤ T2.heap.size := Nat.le_trans hk1 Kq2.1
  have WW2 : own_W TT.heap.size TT.heap T2.heap := own_W.keep WW1 Kq2 (allS w_fa all0)
  have N2 : Fr n0 L2 := by rw [l2]; exact Fr.app N0 Nq2
  obtain ⟨T3, h3, X3, e3, E3, A3, D3, -, st3⟩ := newO X2 hx hZ hown (wJ hw 26 rfl) (wJ hw 27 rfl) (wJ hw 28 rfl) rfl (g := (mkF m 123 (lA11 p1 p2 p3 p4 bT bF bG nn tF tG tH tA fa) [])) rfl (hb hby at_123) (by decide) (by decide)
  obtain ⟨ff, g3⟩ : ∃ z, z = T2.heap.size := ⟨_, rfl⟩
  rw [← g3] at A3 D3 st3
  have g_ff : n0 ≤ ff := Nat.le_trans Z2 (Nat.le_of_eq g3.symm)
  have sz_ff : TT.heap.size ≤ ff := Nat.le_trans WW2.size (Nat.le_of_eq g3.symm)
  have Z3 : n0 ≤ h3.size := Nat.le_trans Z2 E3.1
  have hk3 : ks ≤ h3.size := Nat.le_trans hk2 E3.1
  have WW3 : own_W TT.heap.size TT.heap h3 := own_W.ext WW2 E3
  have F_position_ff : Fld Z h3 ff "com/example/hemotide/hemotide/link/Frame" "position" "J" (.long (0 : Int64)) := D3 (Or.inr (wJ hw 39 rfl)) (ty := .long) (by decide)
  have F_offset_ff : Fld Z h3 ff "com/example/hemotide/hemotide/link/Frame" "offset" "J" (.long (0 : Int64)) := D3 (Or.inr (wJ hw 41 rfl)) (ty := .long) (by decide)
  have F_end_ff : Fld Z h3 ff "com/example/hemotide/hemotide/link/Frame" "end" "J" (.long (0 : Int64)) := D3 (Or.inr (wJ hw 43 rfl)) (ty := .long) (by decide)
  have F_number_ff : Fld Z h3 ff "com/example/hemotide/hemotide/link/Frame" "number" "I" (.int (0 : Int32)) := D3 (Or.inr (wJ hw 45 rfl)) (ty := .int) (by decide)
  have F_text_ff : Fld Z h3 ff "com/example/hemotide/hemotide/link/Frame" "text" "Ljava/lang/String;" .null := D3 (Or.inr (wJ hw 47 rfl)) (ty := (.object "java/lang/String")) (by decide)
  have F_endsRecord_ff : Fld Z h3 ff "com/example/hemotide/hemotide/link/Frame" "endsRecord" "Z" (.int (0 : Int32)) := D3 (Or.inr (wJ hw 49 rfl)) (ty := .boolean) (by decide)
  have F_complete_ff : Fld Z h3 ff "com/example/hemotide/hemotide/link/Frame" "complete" "Z" (.int (0 : Int32)) := D3 (Or.inr (wJ hw 51 rfl)) (ty := .boolean) (by decide)
  have F_defect_ff : Fld Z h3 ff "com/example/hemotide/hemotide/link/Frame" "defect" "Ljava/lang/String;" .null := D3 (Or.inr (wJ hw 53 rfl)) (ty := (.object "java/lang/String")) (by decide)
  have w_ff := sz_ff
  have l_fa : fa < ff := Nat.lt_of_lt_of_le A1.lt (Nat.le_trans Kq2.1 (Nat.le_of_eq g3.symm))
  obtain ⟨za, hza, rza⟩ : ∃ z : Int32, (z = (0 : Int32) ∨ z = (1 : Int32)) ∧ (((p1 &&& (64 : Int32)) = (0 : Int32) ∧ z = (0 : Int32)) ∨ (¬ (p1 &&& (64 : Int32)) = (0 : Int32) ∧ z = (1 : Int32))) := by
    by_cases q : (p1 &&& (64 : Int32)) = (0 : Int32)
    · exact ⟨0, by decide, Or.inl ⟨q, rfl⟩⟩
    · exact ⟨1, by decide, Or.inr ⟨q, rfl⟩⟩
  have sg_za : ∀ target, Steps p.tables e below (T3.setTop (mkF m 151 (lA11 p1 p2 p3 p4 bT bF bG nn tF tG tH tA fa) [(.int za), (.ref tF), (.int p2), (.long (11 : Int64)), (.long (10 : Int64)), (.long (2 : Int64)), (.ref ff), (.ref ff)])) target → Steps p.tables e below (T3.setTop (mkF m 143 (lA11 p1 p2 p3 p4 bT bF bG nn tF tG tH tA fa) [(.int (p1 &&& (64 : Int32))), (.ref tF), (.int p2), (.long (11 : Int64)), (.long (10 : Int64)), (.long (2 : Int64)), (.ref ff), (.ref ff)])) target := by
    intro target kt
    rcases rza with ⟨qa, qb⟩ | ⟨qa, qb⟩
    · rw [qb] at kt
      show Steps _ _ _ (T3.setTop (mkF m 143 (lA11 p1 p2 p3 p4 bT bF bG nn tF tG tH tA fa) [(.int (p1 &&& (64 : Int32))), (.ref tF), (.int p2), (.long (11 : Int64)), (.long (10 : Int64)), (.long (2 : Int64)), (.ref ff), (.ref ff)])) _
      refine XS.ifYes X3.here hx rfl (pc0 := 143) (pc' := 150) rfl (hb hby at_143) rfl ((if0 _ _).trans (teq (qa : (p1 &&& (64 : Int32)) = (0 : Int32))).1) (by decide) (by decide) ?_
      refine XS.iconst X3.here hx rfl (hb hby at_150) ?_
      show Steps _ _ _ (T3.setTop (mkF m 151 (lA11 p1 p2 p3 p4 bT bF bG nn tF tG tH tA fa) [(.int (0 : Int32)), (.ref tF), (.int p2), (.long (11 : Int64)), (.long (10 : Int64)), (.long (2 : Int64)), (.ref ff), (.ref ff)])) _
      exact kt
    · rw [qb] at kt
      show Steps _ _ _ (T3.setTop (mkF m 143 (lA11 p1 p2 p3 p4 bT bF bG nn tF tG tH tA fa) [(.int (p1 &&& (64 : Int32))), (.ref tF), (.int p2), (.long (11 : Int64)), (.long (10 : Int64)), (.long (2 : Int64)), (.ref ff), (.ref ff)])) _
      refine XS.ifNo X3.here hx rfl (hb hby at_143) rfl ((if0 _ _).trans (feq (qa : ¬ ((p1 &&& (64 : Int32)) = (0 : Int32)))).1) ?_
      refine XS.iconst X3.here hx rfl (hb hby at_146) ?_
      refine XS.goto X3.here hx rfl (pc0 := 147) (pc' := 151) rfl (hb hby at_147) (by decide) (by decide) ?_
      show Steps _ _ _ (T3.setTop (mkF m 151 (lA11 p1 p2 p3 p4 bT bF bG nn tF tG tH tA fa) [(.int (1 : Int32)), (.ref tF), (.int p2), (.long (11 : Int64)), (.long (10 : Int64)), (.long (2 : Int64)), (.ref ff), (.ref ff)])) _
      exact kt
  obtain ⟨zb, hzb, rzb⟩ : ∃ z : Int32, (z = (0 : Int32) ∨ z = (1 : Int32)) ∧ ((bF = (0 : Int32) ∧ z = (1 : Int32)) ∨ (¬ bF = (0 : Int32) ∧ z = (0 : Int32))) := by
    by_cases q : bF = (0 : Int32)
    · exact ⟨1, by decide, Or.inl ⟨q, rfl⟩⟩
    · exact ⟨0, by decide, Or.inr ⟨q, rfl⟩⟩
  have sg_zb : ∀ target, Steps p.tables e below (T3.setTop (mkF m 161 (lA11 p1 p2 p3 p4 bT bF bG nn tF tG tH tA fa) [(.int zb), (.int za), (.ref tF), (.int p2), (.long (11 : Int64)), (.long (10 : Int64)), (.long (2 : Int64)), (.ref ff), (.ref ff)])) target → Steps p.tables e below (T3.setTop (mkF m 153 (lA11 p1 p2 p3 p4 bT bF bG nn tF tG tH tA fa) [(.int bF), (.int za), (.ref tF), (.int p2), (.long (11 : Int64)), (.long (10 : Int64)), (.long (2 : Int64)), (.ref ff), (.ref ff)])) target := by
    intro target kt
    rcases rzb with ⟨qa, qb⟩ | ⟨qa, qb⟩
    · rw [qb] at kt
      show Steps _ _ _ (T3.setTop (mkF m 153 (lA11 p1 p2 p3 p4 bT bF bG nn tF tG tH tA fa) [(.int bF), (.int za), (.ref tF), (.int p2), (.long (11 : Int64)), (.long (10 : Int64)), (.long (2 : Int64)), (.ref ff), (.ref ff)])) _
      refine XS.ifNo X3.here hx rfl (hb hby at_153) rfl ((if0 _ _).trans (teq (qa : bF = (0 : Int32))).2) ?_
      refine XS.iconst X3.here hx rfl (hb hby at_156) ?_
      refine XS.goto X3.here hx rfl (pc0 := 157) (pc' := 161) rfl (hb hby at_157) (by decide) (by decide) ?_
      show Steps _ _ _ (T3.setTop (mkF m 161 (lA11 p1 p2 p3 p4 bT bF bG nn tF tG tH tA fa) [(.int (1 : Int32)), (.int za), (.ref tF), (.int p2), (.long (11 : Int64)), (.long (10 : Int64)), (.long (2 : Int64)), (.ref ff), (.ref ff)])) _
      exact kt
    · rw [qb] at kt
      show Steps _ _ _ (T3.setTop (mkF m 153 (lA11 p1 p2 p3 p4 bT bF bG nn tF tG tH tA fa) [(.int bF), (.int za), (.ref tF), (.int p2), (.long (11 : Int64)), (.long (10 : Int64)), (.long (2 : Int64)), (.ref ff), (.ref ff)])) _
      refine XS.ifYes X3.here hx rfl (pc0 := 153) (pc' := 160) rfl (hb hby at_153) rfl ((if0 _ _).trans (feq (qa : ¬ (bF = (0 : Int32)))).2) (by decide) (by decide) ?_
      refine XS.iconst X3.here hx rfl (hb hby at_160) ?_
      show Steps _ _ _ (T3.setTop (mkF m 161 (lA11 p1 p2 p3 p4 bT bF bG nn tF tG tH tA fa) [(.int (0 : Int32)), (.int za), (.ref tF), (.int p2), (.long (11 : Int64)), (.long (10 : Int64)), (.long (2 : Int64)), (.ref ff), (.ref ff)])) _
      exact kt
  by_cases hb5 : bF = (0 : Int32)
  · have fc4 := ((A1.keep Kq2).ext E3)
    have fc5 := (Ga0.ext E3)
    have fc6 := (Ga1.ext E3)
    have fc7 := (Ga3.ext E3)
    have fc8 := (Ga4.ext E3)
    have fc9 := (Ga7.ext E3)
    have fc10 := (Ga5.ext E3)
    refine own_End.by (g' := (mkF m 172 (lA11 p1 p2 p3 p4 bT bF bG nn tF tG tH tA fa) [.null, (.int zb), (.int za), (.ref tF), (.int p2), (.long (11 : Int64)), (.long (10 : Int64)), (.long (2 : Int64)), (.ref ff), (.ref ff)])) (own_K0b hw Bd hml (X3.more (by decide : 10 ≤ 14) (by decide : 56 ≤ 100)) hS (by rw [e3]; exact hk3) hZ hown (hn0 ▸ N2) (hn0 ▸ (by rw [e3]; exact Z3))  hh hold HC HCW (by rw [e3]; exact (own_W.trans W0 (own_W.mono hnb WW3))) SC hcs SO ST VO VT hd1 hd2 (Nat.le_trans hnb w_ff) (by rw [e3]; exact ⟨A3, F_position_ff, F_offset_ff, F_end_ff, F_number_ff, F_text_ff, F_endsRecord_ff, F_complete_ff, F_defect_ff⟩) (by rw [e3]; exact ⟨fc4, fc5, fc6, fc7, fc8, fc9, (((own_tn.of SA (Nat.le_refl _)).W WW3).mono w_ff), l_fa⟩) (by rw [e3]; exact fc10) (by rw [e3]; exact (((own_tn.of SF (Nat.le_refl _)).W WW3).mono w_ff)) (by rw [e3]; exact (((own_tn.of SG (Nat.le_refl _)).W WW3).mono w_ff)) (by rw [e3]; exact (((own_tn.of SH (Nat.le_refl _)).W WW3).mono w_ff)) hza hzb (Or.inl ⟨hb5, rfl⟩) hne1 hne2 (Or.inl ⟨rfl, IBs⟩)) ?_
    intro tg kt
    show Steps _ _ _ (TT.setTop (mkF m 105 (lA10 p1 p2 p3 p4 bT bF bG nn tF tG tH tA) [])) _
    refine st1 _ ?_
    refine XS.dup X1.here hx rfl (hb hby at_108) rfl rfl ?_
    refine XS.lconst X1.here hx rfl (hb hby at_109) ?_
    refine XS.lconst X1.here hx rfl (hb hby at_110) ?_
    show Steps _ _ _ (T1.setTop (mkF m 111 (lA10 p1 p2 p3 p4 bT bF bG nn tF tG tH tA) [(.long (0 : Int64)), (.long (1 : Int64)), (.ref fa), (.ref fa)])) _
    refine XS.lconst X1.here hx rfl (hb hby at_111) ?_
    refine XS.iconst X1.here hx rfl (hb hby at_112) ?_
    refine XS.aload X1.here hx rfl (hb hby at_113) rfl rfl ?_
    refine XS.iconst X1.here hx rfl (hb hby at_115) ?_
    show Steps _ _ _ (T1.setTop (mkF m 116 (lA10 p1 p2 p3 p4 bT bF bG nn tF tG tH tA) [(.int (0 : Int32)), (.ref tA), (.int (1 : Int32)), (.long (1 : Int64)), (.long (0 : Int64)), (.long (1 : Int64)), (.ref fa), (.ref fa)])) _
    refine XS.iconst X1.here hx rfl (hb hby at_116) ?_
    refine XS.aconstNull X1.here hx rfl (hb hby at_117) ?_
    refine st2.trans ?_
    refine XS.astore X2.here hx rfl (hb hby at_121) rfl rfl (l' := (lA11 p1 p2 p3 p4 bT bF bG nn tF tG tH tA fa)) rfl ?_
    show Steps _ _ _ (T2.setTop (mkF m 123 (lA11 p1 p2 p3 p4 bT bF bG nn tF tG tH tA fa) [])) _
    refine st3 _ ?_
    refine XS.dup X3.here hx rfl (hb hby at_126) rfl rfl ?_
    refine X3.ldc2Long hx howna (mvT hZa (wJ hw 54 rfl)) (g := (mkF m 127 (lA11 p1 p2 p3 p4 bT bF bG nn tF tG tH tA fa) [(.ref ff), (.ref ff)])) rfl (hb hby at_127) _ ?_
    refine X3.ldc2Long hx howna (mvT hZa (wJ hw 55 rfl)) (g := (mkF m 130 (lA11 p1 p2 p3 p4 bT bF bG nn tF tG tH tA fa) [(.long (2 : Int64)), (.ref ff), (.ref ff)])) rfl (hb hby at_130) _ ?_
    show Steps _ _ _ (T3.setTop (mkF m 133 (lA11 p1 p2 p3 p4 bT bF bG nn tF tG tH tA fa) [(.long (10 : Int64)), (.long (2 : Int64)), (.ref ff), (.ref ff)])) _
    refine X3.ldc2Long hx howna (mvT hZa (wJ hw 56 rfl)) (g := (mkF m 133 (lA11 p1 p2 p3 p4 bT bF bG nn tF tG tH tA fa) [(.long (10 : Int64)), (.long (2 : Int64)), (.ref ff), (.ref ff)])) rfl (hb hby at_133) _ ?_
    refine XS.iloadN X3.here hx rfl (hb hby at_136) rfl ?_
    refine XS.aload X3.here hx rfl (hb hby at_137) rfl rfl ?_
    refine XS.iloadN X3.here hx rfl (hb hby at_139) rfl ?_
    show Steps _ _ _ (T3.setTop (mkF m 140 (lA11 p1 p2 p3 p4 bT bF bG nn tF tG tH tA fa) [(.int p1), (.ref tF), (.int p2), (.long (11 : Int64)), (.long (10 : Int64)), (.long (2 : Int64)), (.ref ff), (.ref ff)])) _
    refine XS.bipush X3.here hx rfl (hb hby at_140) ?_
    refine XS.iand X3.here hx rfl (hb hby at_142) rfl ?_
    refine sg_za _ ?_
    refine XS.iload X3.here hx rfl (hb hby at_151) rfl ?_
    show Steps _ _ _ (T3.setTop (mkF m 153 (lA11 p1 p2 p3 p4 bT bF bG nn tF tG tH tA fa) [(.int bF), (.int za), (.ref tF), (.int p2), (.long (11 : Int64)), (.long (10 : Int64)), (.long (2 : Int64)), (.ref ff), (.ref ff)])) _
    refine sg_zb _ ?_
    refine XS.iload X3.here hx rfl (hb hby at_161) rfl ?_
    refine XS.ifYes X3.here hx rfl (pc0 := 163) (pc' := 171) rfl (hb hby at_163) rfl ((if0 _ _).trans (teq (hb5 : bF = (0 : Int32))).1) (by decide) (by decide) ?_
    refine XS.aconstNull X3.here hx rfl (hb hby at_171) ?_
    show Steps _ _ _ (T3.setTop (mkF m 172 (lA11 p1 p2 p3 p4 bT bF bG nn tF tG tH tA fa) [.null, (.int zb), (.int za), (.ref tF), (.int p2), (.long (11 : Int64)), (.long (10 : Int64)), (.long (2 : Int64)), (.ref ff), (.ref ff)])) _
    exact kt
  · obtain ⟨sa11, T11, h11, ks, sb11, sk11, X11, e11, E11, hS, hks11, hZ, hown, Ea11, Fc11, Fv11, V11, lta11, ltb11, IBs, Lit11, st11⟩ := ldcSVL (text := own_T305) X3 hx hZ hown (wJ hw 305 rfl) own_wS e3 hS hk3 (hn0 ▸ N2) (fun b cl q => by rw [hh]; exact hold b cl q) IBs (by decide +kernel) (HC _ (wI 5 rfl)) HCW (vs := own_vs own_T305) (z := (3 : Int32)) (own_ht (by decide +kernel)) (by decide) (by decide +kernel) (g := (mkF m 166 (lA11 p1 p2 p3 p4 bT bF bG nn tF tG tH tA fa) [(.int zb), (.int za), (.ref tF), (.int p2), (.long (11 : Int64)), (.long (10 : Int64)), (.long (2 : Int64)), (.ref ff), (.ref ff)])) rfl (hb hby at_166) (n := 12) (by decide +kernel) (by decide) (by decide) (by decide)
    have Z11 : n0 ≤ h11.size := Nat.le_trans Z3 E11.1
    have WW11 : own_W TT.heap.size TT.heap h11 := own_W.ext WW3 E11
    have S11 : own_str Z h11 sa11 (3 : Int32) := ⟨sb11, sk11, _, Ea11, Fv11, Fc11, V11, by decide +kernel⟩
    have fc12 := (A3.ext E11)
    have fc13 := (F_position_ff.ext E11)
    have fc14 := (F_offset_ff.ext E11)
    have fc15 := (F_end_ff.ext E11)
    have fc16 := (F_number_ff.ext E11)
    have fc17 := (F_text_ff.ext E11)
    have fc18 := (F_endsRecord_ff.ext E11)
    have fc19 := (F_complete_ff.ext E11)
    have fc20 := (F_defect_ff.ext E11)
    have fc21 := (((A1.keep Kq2).ext E3).ext E11)
    have fc22 := ((Ga0.ext E3).ext E11)
    have fc23 := ((Ga1.ext E3).ext E11)
    have fc24 := ((Ga3.ext E3).ext E11)
    have fc25 := ((Ga4.ext E3).ext E11)
    have fc26 := ((Ga7.ext E3).ext E11)
    have fc27 := ((Ga5.ext E3).ext E11)
    refine own_End.by (g' := (mkF m 172 (lA11 p1 p2 p3 p4 bT bF bG nn tF tG tH tA fa) [(.ref sa11), (.int zb), (.int za), (.ref tF), (.int p2), (.long (11 : Int64)), (.long (10 : Int64)), (.long (2 : Int64)), (.ref ff), (.ref ff)])) (own_K0b hw Bd hml (X11.more (by decide : 12 ≤ 14) (by decide : 72 ≤ 100)) hS (by rw [e11]; exact hks11) hZ hown (hn0 ▸ N2) (hn0 ▸ (by rw [e11]; exact Z11))  hh hold HC HCW (by rw [e11]; exact (own_W.trans W0 (own_W.mono hnb WW11))) SC hcs SO ST VO VT hd1 hd2 (Nat.le_trans hnb w_ff) (by rw [e11]; exact ⟨fc12, fc13, fc14, fc15, fc16, fc17, fc18, fc19, fc20⟩) (by rw [e11]; exact ⟨fc21, fc22, fc23, fc24, fc25, fc26, (((own_tn.of SA (Nat.le_refl _)).W WW11).mono w_ff), l_fa⟩) (by rw [e11]; exact fc27) (by rw [e11]; exact (((own_tn.of SF (Nat.le_refl _)).W WW11).mono w_ff)) (by rw [e11]; exact (((own_tn.of SG (Nat.le_refl _)).W WW11).mono w_ff)) (by rw [e11]; exact (((own_tn.of SH (Nat.le_refl _)).W WW11).mono w_ff)) hza hzb (Or.inr ⟨hb5, _, rfl⟩) hne1 hne2 (Or.inr ⟨_, rfl, IBs, Lit11⟩)) ?_
    intro tg kt
    show Steps _ _ _ (TT.setTop (mkF m 105 (lA10 p1 p2 p3 p4 bT bF bG nn tF tG tH tA) [])) _
    refine st1 _ ?_
    refine XS.dup X1.here hx rfl (hb hby at_108) rfl rfl ?_
    refine XS.lconst X1.here hx rfl (hb hby at_109) ?_
    refine XS.lconst X1.here hx rfl (hb hby at_110) ?_
    show Steps _ _ _ (T1.setTop (mkF m 111 (lA10 p1 p2 p3 p4 bT bF bG nn tF tG tH tA) [(.long (0 : Int64)), (.long (1 : Int64)), (.ref fa), (.ref fa)])) _
    refine XS.lconst X1.here hx rfl (hb hby at_111) ?_
    refine XS.iconst X1.here hx rfl (hb hby at_112) ?_
    refine XS.aload X1.here hx rfl (hb hby at_113) rfl rfl ?_
    refine XS.iconst X1.here hx rfl (hb hby at_115) ?_
    show Steps _ _ _ (T1.setTop (mkF m 116 (lA10 p1 p2 p3 p4 bT bF bG nn tF tG tH tA) [(.int (0 : Int32)), (.ref tA), (.int (1 : Int32)), (.long (1 : Int64)), (.long (0 : Int64)), (.long (1 : Int64)), (.ref fa), (.ref fa)])) _
    refine XS.iconst X1.here hx rfl (hb hby at_116) ?_
    refine XS.aconstNull X1.here hx rfl (hb hby at_117) ?_
    refine st2.trans ?_
    refine XS.astore X2.here hx rfl (hb hby at_121) rfl rfl (l' := (lA11 p1 p2 p3 p4 bT bF bG nn tF tG tH tA fa)) rfl ?_
    show Steps _ _ _ (T2.setTop (mkF m 123 (lA11 p1 p2 p3 p4 bT bF bG nn tF tG tH tA fa) [])) _
    refine st3 _ ?_
    refine XS.dup X3.here hx rfl (hb hby at_126) rfl rfl ?_
    refine X3.ldc2Long hx howna (mvT hZa (wJ hw 54 rfl)) (g := (mkF m 127 (lA11 p1 p2 p3 p4 bT bF bG nn tF tG tH tA fa) [(.ref ff), (.ref ff)])) rfl (hb hby at_127) _ ?_
    refine X3.ldc2Long hx howna (mvT hZa (wJ hw 55 rfl)) (g := (mkF m 130 (lA11 p1 p2 p3 p4 bT bF bG nn tF tG tH tA fa) [(.long (2 : Int64)), (.ref ff), (.ref ff)])) rfl (hb hby at_130) _ ?_
    show Steps _ _ _ (T3.setTop (mkF m 133 (lA11 p1 p2 p3 p4 bT bF bG nn tF tG tH tA fa) [(.long (10 : Int64)), (.long (2 : Int64)), (.ref ff), (.ref ff)])) _
    refine X3.ldc2Long hx howna (mvT hZa (wJ hw 56 rfl)) (g := (mkF m 133 (lA11 p1 p2 p3 p4 bT bF bG nn tF tG tH tA fa) [(.long (10 : Int64)), (.long (2 : Int64)), (.ref ff), (.ref ff)])) rfl (hb hby at_133) _ ?_
    refine XS.iloadN X3.here hx rfl (hb hby at_136) rfl ?_
    refine XS.aload X3.here hx rfl (hb hby at_137) rfl rfl ?_
    refine XS.iloadN X3.here hx rfl (hb hby at_139) rfl ?_
    show Steps _ _ _ (T3.setTop (mkF m 140 (lA11 p1 p2 p3 p4 bT bF bG nn tF tG tH tA fa) [(.int p1), (.ref tF), (.int p2), (.long (11 : Int64)), (.long (10 : Int64)), (.long (2 : Int64)), (.ref ff), (.ref ff)])) _
    refine XS.bipush X3.here hx rfl (hb hby at_140) ?_
    refine XS.iand X3.here hx rfl (hb hby at_142) rfl ?_
    refine sg_za _ ?_
    refine XS.iload X3.here hx rfl (hb hby at_151) rfl ?_
    show Steps _ _ _ (T3.setTop (mkF m 153 (lA11 p1 p2 p3 p4 bT bF bG nn tF tG tH tA fa) [(.int bF), (.int za), (.ref tF), (.int p2), (.long (11 : Int64)), (.long (10 : Int64)), (.long (2 : Int64)), (.ref ff), (.ref ff)])) _
    refine sg_zb _ ?_
    refine XS.iload X3.here hx rfl (hb hby at_161) rfl ?_
    refine XS.ifNo X3.here hx rfl (hb hby at_163) rfl ((if0 _ _).trans (feq (hb5 : ¬ (bF = (0 : Int32)))).1) ?_
    refine st11 _ ?_
    show Steps _ _ _ (T11.setTop (mkF m 168 (lA11 p1 p2 p3 p4 bT bF bG nn tF tG tH tA fa) [(.ref sa11), (.int zb), (.int za), (.ref tF), (.int p2), (.long (11 : Int64)), (.long (10 : Int64)), (.long (2 : Int64)), (.ref ff), (.ref ff)])) _
    refine XS.goto X11.here hx rfl (pc0 := 168) (pc' := 172) rfl (hb hby at_168) (by decide) (by decide) ?_
    show Steps _ _ _ (T11.setTop (mkF m 172 (lA11 p1 p2 p3 p4 bT bF bG nn tF tG tH tA fa) [(.ref sa11), (.int zb), (.int za), (.ref tF), (.int p2), (.long (11 : Int64)), (.long (10 : Int64)), (.long (2 : Int64)), (.ref ff), (.ref ff)])) _
    exact kt
theorem pd__C_Ljava_lang_String_ : parseMethodDescriptor "(C)Ljava/lang/String;" = some ⟨[.char], some (.object "java/lang/String")⟩ := by decide +kernel
theorem own_K0 {p : Program} {l : Launch} {e : Env} {s : State} {m : MethodId} {args : Array Value} {below : List Frame} {meth : Method} {c : Code} {s₁ : State} {SS : Spec} {Z : State} {a0 : Array Value} {TT : State} {vm : Vm} {LL : List Loc} {ks : Nat} {p1 : Int32} {p2 : Int32} {p3 : Int32} {p4 : Int32} {cs : Int32} {d1 : Addr} {d2 : Addr} {kd1 : ClassId} {kd2 : ClassId} {vo : List Value} {vt : List Value}
    (hw : ∀ d ∈ tables_1, d.before a0 Z = true)
    (Bd : BodyLoose p l x SS code maxLocals ret e s m args below meth c s₁)
    (hml : c.maxLocals = 22)
    (X0 : Stand p l e room_1 (s.setVm vm) m args below meth c TT LL 0 0)
    (hS : s.Since vm ks)
    (hk0 : ks ≤ TT.heap.size)
    (hZ : Z.Warmed39 (s.setVm vm).vm)
    (hown : (s.setVm vm).vm.findClass "com/example/hemotide/hemotide/link/TransferRefusePinLaw" = some m.cls)
    (N0 : Fr s.heap.size LL)
    (Z0 : s.heap.size ≤ TT.heap.size)
    (IBs : IB Z vm [])
    (hh : s.heap = TT.heap)
    (hold : ∀ (b : Addr) (cl : Cell), Z.heap[b]? = some cl → TT.heap[b]? = some cl)
    (HC : ∀ q ∈ consts_1, Jvm.Lit.constHeld Z q.1 q.2)
    (HCW : Jvm.Lit.compactW.before a0 Z = true)
    (SC : own_S Z TT.heap TT.heap.size "java/lang/String" "COMPACT_STRINGS" "Z" (.int cs))
    (hcs : ¬ (cs = (0 : Int32)))
    (SO : own_S Z TT.heap TT.heap.size "java/lang/Integer" "DigitOnes" "[B" (.ref d1))
    (ST : own_S Z TT.heap TT.heap.size "java/lang/Integer" "DigitTens" "[B" (.ref d2))
    (VO : Arv Z TT.heap d1 kd1 .byte (100 : Int32) vo (.int (0 : Int32)))
    (VT : Arv Z TT.heap d2 kd2 .byte (100 : Int32) vt (.int (0 : Int32)))
    (hd1 : d1 < TT.heap.size)
    (hd2 : d2 < TT.heap.size) : own_End p e below s TT (mkF m 0 (lA2 p1 p2 p3 p4) []) := by
  have hx := Bd.exec
  have hZa := hZ
  have howna := hown
  have hby : c.code = code := Bd.bytes
  have own_wS : ∀ d ∈ Bundle.stringAtoms, d.before a0 Z = true := own_wSof hw
  obtain ⟨n0, hn0⟩ : ∃ z, z = s.heap.size := ⟨_, rfl⟩
  rw [← hn0] at N0 Z0
  obtain ⟨bT, hbT, rbT⟩ : ∃ z : Int32, (z = (0 : Int32) ∨ z = (1 : Int32)) ∧ (((p1 &&& (1 : Int32)) = (0 : Int32) ∧ z = (0 : Int32)) ∨ (¬ (p1 &&& (1 : Int32)) = (0 : Int32) ∧ z = (1 : Int32))) := by
    by_cases q : (p1 &&& (1 : Int32)) = (0 : Int32)
    · exact ⟨0, by decide, Or.inl ⟨q, rfl⟩⟩
    · exact ⟨1, by decide, Or.inr ⟨q, rfl⟩⟩
  have sg_bT : ∀ target, Steps p.tables e below (TT.setTop (mkF m 11 (lA2 p1 p2 p3 p4) [(.int bT)])) target → Steps p.tables e below (TT.setTop (mkF m 3 (lA2 p1 p2 p3 p4) [(.int (p1 &&& (1 : Int32)))])) target := by
    intro target kt
    rcases rbT with ⟨qa, qb⟩ | ⟨qa, qb⟩
    · rw [qb] at kt
      show Steps _ _ _ (TT.setTop (mkF m 3 (lA2 p1 p2 p3 p4) [(.int (p1 &&& (1 : Int32)))])) _
      refine XS.ifYes X0.here hx rfl (pc0 := 3) (pc' := 10) rfl (hb hby at_3) rfl ((if0 _ _).trans (teq (qa : (p1 &&& (1 : Int32)) = (0 : Int32))).1) (by decide) (by decide) ?_
      refine XS.iconst X0.here hx rfl (hb hby at_10) ?_
      show Steps _ _ _ (TT.setTop (mkF m 11 (lA2 p1 p2 p3 p4) [(.int (0 : Int32))])) _
      exact kt
    · rw [qb] at kt
      show Steps _ _ _ (TT.setTop (mkF m 3 (lA2 p1 p2 p3 p4) [(.int (p1 &&& (1 : Int32)))])) _
      refine XS.ifNo X0.here hx rfl (hb hby at_3) rfl ((if0 _ _).trans (feq (qa : ¬ ((p1 &&& (1 : Int32)) = (0 : Int32)))).1) ?_
      refine XS.iconst X0.here hx rfl (hb hby at_6) ?_
      refine XS.goto X0.here hx rfl (pc0 := 7) (pc' := 11) rfl (hb hby at_7) (by decide) (by decide) ?_
      show Steps _ _ _ (TT.setTop (mkF m 11 (lA2 p1 p2 p3 p4) [(.int (1 : Int32))])) _
      exact kt
  obtain ⟨bF, hbF, rbF⟩ : ∃ z : Int32, (z = (0 : Int32) ∨ z = (1 : Int32)) ∧ (((p1 &&& (2 : Int32)) = (0 : Int32) ∧ z = (0 : Int32)) ∨ (¬ (p1 &&& (2 : Int32)) = (0 : Int32) ∧ z = (1 : Int32))) := by
    by_cases q : (p1 &&& (2 : Int32)) = (0 : Int32)
    · exact ⟨0, by decide, Or.inl ⟨q, rfl⟩⟩
    · exact ⟨1, by decide, Or.inr ⟨q, rfl⟩⟩
  have sg_bF : ∀ target, Steps p.tables e below (TT.setTop (mkF m 24 (lA3 p1 p2 p3 p4 bT) [(.int bF)])) target → Steps p.tables e below (TT.setTop (mkF m 16 (lA3 p1 p2 p3 p4 bT) [(.int (p1 &&& (2 : Int32)))])) target := by
    intro target kt
    rcases rbF with ⟨qa, qb⟩ | ⟨qa, qb⟩
    · rw [qb] at kt
      show Steps _ _ _ (TT.setTop (mkF m 16 (lA3 p1 p2 p3 p4 bT) [(.int (p1 &&& (2 : Int32)))])) _
      refine XS.ifYes X0.here hx rfl (pc0 := 16) (pc' := 23) rfl (hb hby at_16) rfl ((if0 _ _).trans (teq (qa : (p1 &&& (2 : Int32)) = (0 : Int32))).1) (by decide) (by decide) ?_
      refine XS.iconst X0.here hx rfl (hb hby at_23) ?_
      show Steps _ _ _ (TT.setTop (mkF m 24 (lA3 p1 p2 p3 p4 bT) [(.int (0 : Int32))])) _
      exact kt
    · rw [qb] at kt
      show Steps _ _ _ (TT.setTop (mkF m 16 (lA3 p1 p2 p3 p4 bT) [(.int (p1 &&& (2 : Int32)))])) _
      refine XS.ifNo X0.here hx rfl (hb hby at_16) rfl ((if0 _ _).trans (feq (qa : ¬ ((p1 &&& (2 : Int32)) = (0 : Int32)))).1) ?_
      refine XS.iconst X0.here hx rfl (hb hby at_19) ?_
      refine XS.goto X0.here hx rfl (pc0 := 20) (pc' := 24) rfl (hb hby at_20) (by decide) (by decide) ?_
      show Steps _ _ _ (TT.setTop (mkF m 24 (lA3 p1 p2 p3 p4 bT) [(.int (1 : Int32))])) _
      exact kt
  obtain ⟨bG, hbG, rbG⟩ : ∃ z : Int32, (z = (0 : Int32) ∨ z = (1 : Int32)) ∧ (((p1 &&& (4 : Int32)) = (0 : Int32) ∧ z = (0 : Int32)) ∨ (¬ (p1 &&& (4 : Int32)) = (0 : Int32) ∧ z = (1 : Int32))) := by
    by_cases q : (p1 &&& (4 : Int32)) = (0 : Int32)
    · exact ⟨0, by decide, Or.inl ⟨q, rfl⟩⟩
    · exact ⟨1, by decide, Or.inr ⟨q, rfl⟩⟩
  have sg_bG : ∀ target, Steps p.tables e below (TT.setTop (mkF m 37 (lA4 p1 p2 p3 p4 bT bF) [(.int bG)])) target → Steps p.tables e below (TT.setTop (mkF m 29 (lA4 p1 p2 p3 p4 bT bF) [(.int (p1 &&& (4 : Int32)))])) target := by
    intro target kt
    rcases rbG with ⟨qa, qb⟩ | ⟨qa, qb⟩
    · rw [qb] at kt
      show Steps _ _ _ (TT.setTop (mkF m 29 (lA4 p1 p2 p3 p4 bT bF) [(.int (p1 &&& (4 : Int32)))])) _
      refine XS.ifYes X0.here hx rfl (pc0 := 29) (pc' := 36) rfl (hb hby at_29) rfl ((if0 _ _).trans (teq (qa : (p1 &&& (4 : Int32)) = (0 : Int32))).1) (by decide) (by decide) ?_
      refine XS.iconst X0.here hx rfl (hb hby at_36) ?_
      show Steps _ _ _ (TT.setTop (mkF m 37 (lA4 p1 p2 p3 p4 bT bF) [(.int (0 : Int32))])) _
      exact kt
    · rw [qb] at kt
      show Steps _ _ _ (TT.setTop (mkF m 29 (lA4 p1 p2 p3 p4 bT bF) [(.int (p1 &&& (4 : Int32)))])) _
      refine XS.ifNo X0.here hx rfl (hb hby at_29) rfl ((if0 _ _).trans (feq (qa : ¬ ((p1 &&& (4 : Int32)) = (0 : Int32)))).1) ?_
      refine XS.iconst X0.here hx rfl (hb hby at_32) ?_
      refine XS.goto X0.here hx rfl (pc0 := 33) (pc' := 37) rfl (hb hby at_33) (by decide) (by decide) ?_
      show Steps _ _ _ (TT.setTop (mkF m 37 (lA4 p1 p2 p3 p4 bT bF) [(.int (1 : Int32))])) _
      exact kt
  obtain ⟨nn, hnn⟩ : ∃ z : Int32, z = ((1 : Int32) + ((((p1.toUInt32 >>> ((3 : Int32) &&& 31).toUInt32).toInt32) &&& (7 : Int32)) % (7 : Int32))) := ⟨_, rfl⟩
  obtain ⟨ctF, ytF, ztF⟩ : ∃ z : Int32, ¬ (255 : Int32) < z ∧ z = ((p4 &&& (255 : Int32)).toUInt32.toUInt16.toUInt32.toInt32) := ⟨_, own_cl _, rfl⟩
  obtain ⟨_, _, ⟨T1, L1, k1, n1⟩, -, X1, ⟨Lc1, hQ1, l1, y1, z1⟩, st1⟩ := Jvm.LawKit.callS X0 hx (y := mn36) hown (mvT hZ (wJ hw 0 rfl)) (mvT hZ (wJ hw 1 rfl)) (mvT hZ (wJ hw 2 rfl)) (mvT hZ (wJ hw 3 rfl)) (by decide) (backOf (W := 0) (own_valC l Z a0 hw [] ctF cs TT.heap.size TT.heap n0 Z0 ytF (own_S.W SC (own_W.refl TT.heap.size TT.heap)) hcs) hZ (wJ hw 3 rfl) (wJ hw 2 rfl) (by decide) (by decide)) (g := (mkF m 58 (lA6 p1 p2 p3 p4 bT bF bG nn) [(.int ctF)])) rfl (by rw [hml]; rfl) (argsL := [(.int ctF)]) (rest := []) (lenOf pd__C_Ljava_lang_String_ rfl) rfl (by show 2 * 0 + _ ≤ _; exact Nat.le_of_eq rfl) (hb hby at_58) (fun _ _ => ⟨rfl, rfl, (by decide : 0 + 2 ≤ _), (by decide : 0 + 5 ≤ _)⟩)
  dsimp only [Pt.U, Pt.locs, Pt.cells, Pt.slots] at X1 l1 y1 z1 st1 hQ1
  replace X1 := X1.more (Nat.le_of_eq (show k1 = 2 from y1)) (Nat.le_of_eq (show n1 = 5 from z1))
  obtain ⟨tF, rfl, Nq1, Kq1, stF, XtF⟩ := hQ1
  have Z1 : n0 ≤ T1.heap.size := Nat.le_trans Z0 Kq1.1
  have hk1 : ks ≤ T1.heap.size := Nat.le_trans hk0 Kq1.1
  have WW1 : own_W TT.heap.size TT.heap T1.heap := own_W.keep (own_W.refl TT.heap.size TT.heap) Kq1 all0
  have N1 : Fr n0 L1 := by rw [l1]; exact Fr.app N0 Nq1
  obtain ⟨ctG, ytG, ztG⟩ : ∃ z : Int32, ¬ (255 : Int32) < z ∧ z = ((((p4.toUInt32 >>> ((8 : Int32) &&& 31).toUInt32).toInt32) &&& (255 : Int32)).toUInt32.toUInt16.toUInt32.toInt32) := ⟨_, own_cl _, rfl⟩
  obtain ⟨_, _, ⟨T2, L2, k2, n2⟩, -, X2, ⟨Lc2, hQ2, l2, y2, z2⟩, st2⟩ := Jvm.LawKit.callS X1 hx (y := mn36) hown (mvT hZ (wJ hw 0 rfl)) (mvT hZ (wJ hw 1 rfl)) (mvT hZ (wJ hw 2 rfl)) (mvT hZ (wJ hw 3 rfl)) (by decide) (backOf (W := 0) (own_valC l Z a0 hw [] ctG cs TT.heap.size T1.heap n0 Z1 ytG (own_S.W SC WW1) hcs) hZ (wJ hw 3 rfl) (wJ hw 2 rfl) (by decide) (by decide)) (g := (mkF m 72 (lA7 p1 p2 p3 p4 bT bF bG nn tF) [(.int ctG)])) rfl (by rw [hml]; rfl) (argsL := [(.int ctG)]) (rest := []) (lenOf pd__C_Ljava_lang_String_ rfl) rfl (by show 2 * 0 + _ ≤ _; exact Nat.le_of_eq rfl) (hb hby at_72) (fun _ _ => ⟨rfl, rfl, (by decide : 2 + 2 ≤ _), (by decide : 5 + 5 ≤ _)⟩)
  dsimp only [Pt.U, Pt.locs, Pt.cells, Pt.slots] at X2 l2 y2 z2 st2 hQ2
  replace X2 := X2.more (Nat.le_of_eq (show k2 = 4 from y2)) (Nat.le_of_eq (show n2 = 10 from z2))
  obtain ⟨tG, rfl, Nq2, Kq2, stG, XtG⟩ := hQ2
  have Z2 : n0 ≤ T2.heap.size := Nat.le_trans Z1 Kq2.1
  have hk2 : ks ≤ T2.heap.size := Nat.le_trans hk1 Kq2.1
  have WW2 : own_W TT.heap.size TT.heap T2.heap := own_W.keep WW1 Kq2 all0
  have N2 : Fr n0 L2 := by rw [l2]; exact Fr.app N1 Nq2
  obtain ⟨ctH, ytH, ztH⟩ : ∃ z : Int32, ¬ (255 : Int32) < z ∧ z = ((((p4.toUInt32 >>> ((16 : Int32) &&& 31).toUInt32).toInt32) &&& (255 : Int32)).toUInt32.toUInt16.toUInt32.toInt32) := ⟨_, own_cl _, rfl⟩
  obtain ⟨_, _, ⟨T3, L3, k3, n3⟩, -, X3, ⟨Lc3, hQ3, l3, y3, z3⟩, st3⟩ := Jvm.LawKit.callS X2 hx (y := mn36) hown (mvT hZ (wJ hw 0 rfl)) (mvT hZ (wJ hw 1 rfl)) (mvT hZ (wJ hw 2 rfl)) (mvT hZ (wJ hw 3 rfl)) (by decide) (backOf (W := 0) (own_valC l Z a0 hw [] ctH cs TT.heap.size T2.heap n0 Z2 ytH (own_S.W SC WW2) hcs) hZ (wJ hw 3 rfl) (wJ hw 2 rfl) (by decide) (by decide)) (g := (mkF m 86 (lA8 p1 p2 p3 p4 bT bF bG nn tF tG) [(.int ctH)])) rfl (by rw [hml]; rfl) (argsL := [(.int ctH)]) (rest := []) (lenOf pd__C_Ljava_lang_String_ rfl) rfl (by show 2 * 0 + _ ≤ _; exact Nat.le_of_eq rfl) (hb hby at_86) (fun _ _ => ⟨rfl, rfl, (by decide : 4 + 2 ≤ _), (by decide : 10 + 5 ≤ _)⟩)
  dsimp only [Pt.U, Pt.locs, Pt.cells, Pt.slots] at X3 l3 y3 z3 st3 hQ3
  replace X3 := X3.more (Nat.le_of_eq (show k3 = 6 from y3)) (Nat.le_of_eq (show n3 = 15 from z3))
  obtain ⟨tH, rfl, Nq3, Kq3, stH, XtH⟩ := hQ3
  have Z3 : n0 ≤ T3.heap.size := Nat.le_trans Z2 Kq3.1
  have hk3 : ks ≤ T3.heap.size := Nat.le_trans hk2 Kq3.1
  have WW3 : own_W TT.heap.size TT.heap T3.heap := own_W.keep WW2 Kq3 all0
  have N3 : Fr n0 L3 := by rw [l3]; exact Fr.app N2 Nq3
  obtain ⟨ctA, ytA, ztA⟩ : ∃ z : Int32, ¬ (255 : Int32) < z ∧ z = ((((p4.toUInt32 >>> ((24 : Int32) &&& 31).toUInt32).toInt32) &&& (255 : Int32)).toUInt32.toUInt16.toUInt32.toInt32) := ⟨_, own_cl _, rfl⟩
  obtain ⟨_, _, ⟨T4, L4, k4, n4⟩, -, X4, ⟨Lc4, hQ4, l4, y4, z4⟩, st4⟩ := Jvm.LawKit.callS X3 hx (y := mn36) hown (mvT hZ (wJ hw 0 rfl)) (mvT hZ (wJ hw 1 rfl)) (mvT hZ (wJ hw 2 rfl)) (mvT hZ (wJ hw 3 rfl)) (by decide) (backOf (W := 0) (own_valC l Z a0 hw [] ctA cs TT.heap.size T3.heap n0 Z3 ytA (own_S.W SC WW3) hcs) hZ (wJ hw 3 rfl) (wJ hw 2 rfl) (by decide) (by decide)) (g := (mkF m 100 (lA9 p1 p2 p3 p4 bT bF bG nn tF tG tH) [(.int ctA)])) rfl (by rw [hml]; rfl) (argsL := [(.int ctA)]) (rest := []) (lenOf pd__C_Ljava_lang_String_ rfl) rfl (by show 2 * 0 + _ ≤ _; exact Nat.le_of_eq rfl) (hb hby at_100) (fun _ _ => ⟨rfl, rfl, (by decide : 6 + 2 ≤ _), (by decide : 15 + 5 ≤ _)⟩)
  dsimp only [Pt.U, Pt.locs, Pt.cells, Pt.slots] at X4 l4 y4 z4 st4 hQ4
  replace X4 := X4.more (Nat.le_of_eq (show k4 = 8 from y4)) (Nat.le_of_eq (show n4 = 20 from z4))
  obtain ⟨tA, rfl, Nq4, Kq4, stA, XtA⟩ := hQ4
  have Z4 : n0 ≤ T4.heap.size := Nat.le_trans Z3 Kq4.1
  have hk4 : ks ≤ T4.heap.size := Nat.le_trans hk3 Kq4.1
  have WW4 : own_W TT.heap.size TT.heap T4.heap := own_W.keep WW3 Kq4 all0
  have N4 : Fr n0 L4 := by rw [l4]; exact Fr.app N3 Nq4
  refine own_End.by (g' := (mkF m 105 (lA10 p1 p2 p3 p4 bT bF bG nn tF tG tH tA) [])) (own_K0a hw Bd hml (X4.more (by decide : 8 ≤ 8) (by decide : 20 ≤ 40)) hS hk4 hZ hown (hn0 ▸ N4) (hn0 ▸ Z4) IBs hh hold HC HCW WW4 SC hcs SO ST VO VT hd1 hd2 (own_txt.K (own_txt.K (own_txt.K XtF Kq2) Kq3) Kq4) (own_txt.K (own_txt.K XtG Kq3) Kq4) (own_txt.K XtH Kq4) XtA (Ne.symm (Nat.ne_of_lt (Nat.lt_of_lt_of_le (own_txt.K XtF Kq2).lt stH))) (Ne.symm (Nat.ne_of_lt (Nat.lt_of_lt_of_le XtG.lt stH)))) ?_
  intro tg kt
  show Steps _ _ _ (TT.setTop (mkF m 0 (lA2 p1 p2 p3 p4) [])) _
  refine XS.iloadN X0.here hx rfl (hb hby at_0) rfl ?_
  refine XS.iconst X0.here hx rfl (hb hby at_1) ?_
  refine XS.iand X0.here hx rfl (hb hby at_2) rfl ?_
  refine sg_bT _ ?_
  show Steps _ _ _ (TT.setTop (mkF m 11 (lA2 p1 p2 p3 p4) [(.int bT)])) _
  refine XS.istore X0.here hx rfl (hb hby at_11) rfl (l' := (lA3 p1 p2 p3 p4 bT)) rfl ?_
  refine XS.iloadN X0.here hx rfl (hb hby at_13) rfl ?_
  refine XS.iconst X0.here hx rfl (hb hby at_14) ?_
  refine XS.iand X0.here hx rfl (hb hby at_15) rfl ?_
  show Steps _ _ _ (TT.setTop (mkF m 16 (lA3 p1 p2 p3 p4 bT) [(.int (p1 &&& (2 : Int32)))])) _
  refine sg_bF _ ?_
  refine XS.istore X0.here hx rfl (hb hby at_24) rfl (l' := (lA4 p1 p2 p3 p4 bT bF)) rfl ?_
  refine XS.iloadN X0.here hx rfl (hb hby at_26) rfl ?_
  refine XS.iconst X0.here hx rfl (hb hby at_27) ?_
  show Steps _ _ _ (TT.setTop (mkF m 28 (lA4 p1 p2 p3 p4 bT bF) [(.int (4 : Int32)), (.int p1)])) _
  refine XS.iand X0.here hx rfl (hb hby at_28) rfl ?_
  refine sg_bG _ ?_
  refine XS.istore X0.here hx rfl (hb hby at_37) rfl (l' := (lA5 p1 p2 p3 p4 bT bF bG)) rfl ?_
  refine XS.iconst X0.here hx rfl (hb hby at_39) ?_
  show Steps _ _ _ (TT.setTop (mkF m 40 (lA5 p1 p2 p3 p4 bT bF bG) [(.int (1 : Int32))])) _
  refine XS.iloadN X0.here hx rfl (hb hby at_40) rfl ?_
  refine XS.iconst X0.here hx rfl (hb hby at_41) ?_
  refine XS.iushr X0.here hx rfl (hb hby at_42) rfl ?_
  refine XS.bipush X0.here hx rfl (hb hby at_43) ?_
  show Steps _ _ _ (TT.setTop (mkF m 45 (lA5 p1 p2 p3 p4 bT bF bG) [(.int (7 : Int32)), (.int ((p1.toUInt32 >>> ((3 : Int32) &&& 31).toUInt32).toInt32)), (.int (1 : Int32))])) _
  refine XS.iand X0.here hx rfl (hb hby at_45) rfl ?_
  refine XS.bipush X0.here hx rfl (hb hby at_46) ?_
  refine iremM X0 hx rfl (hb hby at_48) rfl (by decide) ?_
  refine XS.iadd X0.here hx rfl (hb hby at_49) rfl ?_
  show Steps _ _ _ (TT.setTop (mkF m 50 (lA5 p1 p2 p3 p4 bT bF bG) [(.int ((1 : Int32) + ((((p1.toUInt32 >>> ((3 : Int32) &&& 31).toUInt32).toInt32) &&& (7 : Int32)) % (7 : Int32))))])) _
  rw [← hnn]
  show Steps _ _ _ (TT.setTop (mkF m 50 (lA5 p1 p2 p3 p4 bT bF bG) [(.int nn)])) _
  refine XS.istore X0.here hx rfl (hb hby at_50) rfl (l' := (lA6 p1 p2 p3 p4 bT bF bG nn)) rfl ?_
  refine XS.iloadN X0.here hx rfl (hb hby at_52) rfl ?_
  refine XS.sipush X0.here hx rfl (hb hby at_53) ?_
  refine XS.iand X0.here hx rfl (hb hby at_56) rfl ?_
  show Steps _ _ _ (TT.setTop (mkF m 57 (lA6 p1 p2 p3 p4 bT bF bG nn) [(.int (p4 &&& (255 : Int32)))])) _
  refine XS.i2c X0.here hx rfl (hb hby at_57) rfl ?_
  show Steps _ _ _ (TT.setTop (mkF m 58 (lA6 p1 p2 p3 p4 bT bF bG nn) [(.int ((p4 &&& (255 : Int32)).toUInt32.toUInt16.toUInt32.toInt32))])) _
  rw [← ztF]
  show Steps _ _ _ (TT.setTop (mkF m 58 (lA6 p1 p2 p3 p4 bT bF bG nn) [(.int ctF)])) _
  refine st1 _ ?_
  refine XS.astore X1.here hx rfl (hb hby at_61) rfl rfl (l' := (lA7 p1 p2 p3 p4 bT bF bG nn tF)) rfl ?_
  refine XS.iloadN X1.here hx rfl (hb hby at_63) rfl ?_
  refine XS.bipush X1.here hx rfl (hb hby at_64) ?_
  show Steps _ _ _ (T1.setTop (mkF m 66 (lA7 p1 p2 p3 p4 bT bF bG nn tF) [(.int (8 : Int32)), (.int p4)])) _
  refine XS.iushr X1.here hx rfl (hb hby at_66) rfl ?_
  refine XS.sipush X1.here hx rfl (hb hby at_67) ?_
  refine XS.iand X1.here hx rfl (hb hby at_70) rfl ?_
  refine XS.i2c X1.here hx rfl (hb hby at_71) rfl ?_
  show Steps _ _ _ (T1.setTop (mkF m 72 (lA7 p1 p2 p3 p4 bT bF bG nn tF) [(.int ((((p4.toUInt32 >>> ((8 : Int32) &&& 31).toUInt32).toInt32) &&& (255 : Int32)).toUInt32.toUInt16.toUInt32.toInt32))])) _
  rw [← ztG]
  show Steps _ _ _ (T1.setTop (mkF m 72 (lA7 p1 p2 p3 p4 bT bF bG nn tF) [(.int ctG)])) _
  refine st2 _ ?_
  refine XS.astore X2.here hx rfl (hb hby at_75) rfl rfl (l' := (lA8 p1 p2 p3 p4 bT bF bG nn tF tG)) rfl ?_
  refine XS.iloadN X2.here hx rfl (hb hby at_77) rfl ?_
  refine XS.bipush X2.here hx rfl (hb hby at_78) ?_
  show Steps _ _ _ (T2.setTop (mkF m 80 (lA8 p1 p2 p3 p4 bT bF bG nn tF tG) [(.int (16 : Int32)), (.int p4)])) _
  refine XS.iushr X2.here hx rfl (hb hby at_80) rfl ?_
  refine XS.sipush X2.here hx rfl (hb hby at_81) ?_
  refine XS.iand X2.here hx rfl (hb hby at_84) rfl ?_
  refine XS.i2c X2.here hx rfl (hb hby at_85) rfl ?_
  show Steps _ _ _ (T2.setTop (mkF m 86 (lA8 p1 p2 p3 p4 bT bF bG nn tF tG) [(.int ((((p4.toUInt32 >>> ((16 : Int32) &&& 31).toUInt32).toInt32) &&& (255 : Int32)).toUInt32.toUInt16.toUInt32.toInt32))])) _
  rw [← ztH]
  show Steps _ _ _ (T2.setTop (mkF m 86 (lA8 p1 p2 p3 p4 bT bF bG nn tF tG) [(.int ctH)])) _
  refine st3 _ ?_
  refine XS.astore X3.here hx rfl (hb hby at_89) rfl rfl (l' := (lA9 p1 p2 p3 p4 bT bF bG nn tF tG tH)) rfl ?_
  refine XS.iloadN X3.here hx rfl (hb hby at_91) rfl ?_
  refine XS.bipush X3.here hx rfl (hb hby at_92) ?_
  show Steps _ _ _ (T3.setTop (mkF m 94 (lA9 p1 p2 p3 p4 bT bF bG nn tF tG tH) [(.int (24 : Int32)), (.int p4)])) _
  refine XS.iushr X3.here hx rfl (hb hby at_94) rfl ?_
  refine XS.sipush X3.here hx rfl (hb hby at_95) ?_
  refine XS.iand X3.here hx rfl (hb hby at_98) rfl ?_
  refine XS.i2c X3.here hx rfl (hb hby at_99) rfl ?_
  show Steps _ _ _ (T3.setTop (mkF m 100 (lA9 p1 p2 p3 p4 bT bF bG nn tF tG tH) [(.int ((((p4.toUInt32 >>> ((24 : Int32) &&& 31).toUInt32).toInt32) &&& (255 : Int32)).toUInt32.toUInt16.toUInt32.toInt32))])) _
  rw [← ztA]
  show Steps _ _ _ (T3.setTop (mkF m 100 (lA9 p1 p2 p3 p4 bT bF bG nn tF tG tH) [(.int ctA)])) _
  refine st4 _ ?_
  refine XS.astore X4.here hx rfl (hb hby at_103) rfl rfl (l' := (lA10 p1 p2 p3 p4 bT bF bG nn tF tG tH tA)) rfl ?_
  show Steps _ _ _ (T4.setTop (mkF m 105 (lA10 p1 p2 p3 p4 bT bF bG nn tF tG tH tA) [])) _
  exact kt
theorem own_dig {Z : State} {a0 : Array Value} {t : Term} (hf : Fit Z) (we : (Cond.exactly t "[B").before a0 Z = true) (wl : (Cond.eq (.length t) (.int (100 : Int32))).before a0 Z = true) (wa : (Cond.arrayClass .byte).before a0 Z = true) : ∃ (d : Addr) (k : ClassId) (vo : List Value), t.eval a0 Z none [] Z = some (.ref d) ∧ Arv Z Z.heap d k .byte (100 : Int32) vo (.int (0 : Int32)) := by
  obtain ⟨d, c, D, k, hev, hfc, hcell, hk, hst, hcls, -⟩ := Cond.exactly_spec we
  have hl := Cond.eq_int wl rfl
  obtain ⟨d', D', hev', harrAt, hlen⟩ := Term.length_spec hl
  cases hev.symm.trans hev'
  obtain ⟨hcellD', hknD, -, -⟩ := State.arrayAt?_spec harrAt
  cases hcell.symm.trans hcellD'
  obtain ⟨cB', kB', comp, hnameB, hkB', hkindB⟩ := Cond.arrayClass_spec wa
  have eBA : ("[" ++ FieldType.toString .byte) = "[B" := by decide
  rw [eBA] at hnameB
  cases hfc.symm.trans hnameB
  cases hk.symm.trans hkB'
  have A : Arr Z Z.heap d D .byte := ⟨hcell, ⟨(fun q h => by rw [h] at hst; cases hst), k, (by rw [hcls]; exact hk), comp, hkindB⟩, hknD⟩
  have q : D.slots.size < 2 ^ 31 := Jvm.Free.SBG.length_lt hev harrAt hl
  have e : D.slots.size.toInt32 = (100 : Int32) := (Value.int.inj hlen).symm
  have S : D.slots.size = (100 : Int32).toNatClampNeg := by rw [← e]; simp only [Int32.toNatClampNeg, len_toInt q]; rfl
  have H : Has D D.slots.toList (.int (0 : Int32)) := fun j hj => by simp [hj]
  refine ⟨d, D.cls, D.slots.toList, hev, D, A, rfl, S, by decide, H, fun j hj => ?_⟩
  have e1 : (Nat.toInt32 j).toNatClampNeg = j := by simp only [Int32.toNatClampNeg, len_toInt (Nat.lt_trans hj q)]; rfl
  exact elem_fits (j := Nat.toInt32 j) hf A (idx_in hj q) (by rw [e1]; exact H j hj)
theorem pn_law : plainName "com/example/hemotide/hemotide/link/TransferRefusePinLaw" = true := by first | (simp [plainName, overriddenIn]; done) | decide +kernel
theorem ef_law (m : MethodId) (p1 p2 p3 p4 : Int32) : entryFrame m #[(.int p1), (.int p2), (.int p3), (.int p4)] maxLocals = mkF m 0 #[ .val (.int p1), .val (.int p2), .val (.int p3), .val (.int p4), .unset, .unset, .unset, .unset, .unset, .unset, .unset, .unset, .unset, .unset, .unset, .unset, .unset, .unset, .unset, .unset, .unset, .unset] [] := by first | (simp [entryFrame, mkF, argsToLocals, Value.category, maxLocals]; done) | rfl
theorem own_law (l : Launch) (Z : State) (a0 : Array Value) (hw : ∀ d ∈ tables_1, d.before a0 Z = true) (ws : List Jvm.Cond) (p1 p2 p3 p4 cs : Int32) (d1 d2 : Addr) (kd1 kd2 : ClassId) (vo vt : List Value) (h0 : Heap)
    (hold : ∀ (b : Addr) (cl : Cell), Z.heap[b]? = some cl → h0[b]? = some cl)
    (HC : ∀ q ∈ consts_1, Jvm.Lit.constHeld Z q.1 q.2)
    (HCW : Jvm.Lit.compactW.before a0 Z = true)
    (SC : own_S Z h0 h0.size "java/lang/String" "COMPACT_STRINGS" "Z" (.int cs))
    (hcs : ¬ (cs = (0 : Int32)))
    (SO : own_S Z h0 h0.size "java/lang/Integer" "DigitOnes" "[B" (.ref d1))
    (ST : own_S Z h0 h0.size "java/lang/Integer" "DigitTens" "[B" (.ref d2))
    (VO : Arv Z h0 d1 kd1 .byte (100 : Int32) vo (.int (0 : Int32)))
    (VT : Arv Z h0 d2 kd2 .byte (100 : Int32) vt (.int (0 : Int32)))
    (hd1 : d1 < h0.size)
    (hd2 : d2 < h0.size) :
    MetFree l x (head1 (Jvm.Cond.code x code maxLocals ret :: ws) room_1) (fun a U => a = #[(.int p1), (.int p2), (.int p3), (.int p4)] ∧ Z.Warmed39 U.vm ∧ U.heap = h0 ∧ IB Z U.vm []) (fun _ _ _ _ _ => True) (fun _ U o U' => ∃ v L, o = .returned v ∧ (v = some (.int (1 : Int32)) ∧ Fr h0.size L) ∧ ReturnedEndW U o U' L room_1.cells room_1.slots) := by
  refine MetFree.of_bodySF (plainFor_of_name pn_law) hisR ?_
  intro p e s m args below meth c s₁ Bd hml0 hP hK
  obtain ⟨rfl, hZ, hh, IBs⟩ := hP
  have hml : c.maxLocals = 22 := hml0
  have hown : s.vm.findClass "com/example/hemotide/hemotide/link/TransferRefusePinLaw" = some m.cls := findClass_of_methodNamed Bd.named
  have X0 : Stand p l e room_1 (s.setVm s.vm) m #[(.int p1), (.int p2), (.int p3), (.int p4)] below meth c s₁ [] 0 0 := Stand.of_body Bd
  have e0 : s₁.heap = h0 := by rw [← hh, Bd.state]; rfl
  subst e0
  have hS : s.Since s.vm s₁.heap.size := (State.WarmedH.refl s).since _
  obtain ⟨s2, o2, st, r1, r2, L, rfl, N, E⟩ := own_K0 (p1 := p1) (p2 := p2) (p3 := p3) (p4 := p4) hw Bd hml X0 hS (Nat.le_refl _) hZ hown (Fr.nil _) (Nat.le_of_eq (by rw [hh])) IBs hh hold HC HCW SC hcs SO ST VO VT hd1 hd2
  exact ⟨s2, _, castTop (ef_law m p1 p2 p3 p4) st, r1, r2, _, L, rfl, ⟨rfl, hh ▸ N⟩, E⟩
theorem comes_1 {Post : Tables → Env → Array Value → State → Outcome → State → Prop} (hpost : ∀ tb e args s v u, (limb_1_1.after args s (.returned v) u = true ∧ limb_1_2.after args s (.returned v) u = true ∧ True) → ReturnedEndW s (.returned v) u (Jvm.fieldLocs frame_1_writes args s ++ Jvm.arrayLocs frame_1_arrays args s ++ Jvm.staticLocs frame_1_statics s) 80 7104 → Post tb e args s (.returned v) u) :
    ArmFor flags0 classFile x code maxLocals ret World_1 tables_1 room_1 Calls_1 rest_1 Pre_1 Post := by
  intro l hfl _ _ p e ha hc hk s m args below hf hA hF happ hP
  obtain ⟨hcalls, hrest, hpre⟩ := hP
  obtain ⟨-, -, -, hnamed, -, -, -, hat⟩ := (Spec.applies_iff hf).mp happ
  obtain ⟨hg, hn⟩ := and_e (Cond.before_iff.mp (show (Jvm.Cond.and given_1 narrow_1).before args s = true from hpre))
  obtain ⟨g1, g2⟩ := and_e hg
  obtain ⟨g3, g4⟩ := and_e g2
  obtain ⟨g5, g6⟩ := and_e g4
  obtain ⟨g7, g8⟩ := and_e g6
  obtain ⟨w0, w1, w2, w3, rfl⟩ : ∃ w0 w1 w2 w3 : Value, args = #[w0, w1, w2, w3] := by
    have hs : args.size = 4 := by simpa [Cond.value, given_1] using g1
    obtain ⟨L⟩ := args
    match L, hs with
    | [w0, w1, w2, w3], _ => exact ⟨w0, w1, w2, w3, rfl⟩
  have hw := fun d (hd : d ∈ tables_1) => atoms_spec (ws := Jvm.Cond.code x code maxLocals ret :: tables_1) hat d (List.mem_cons_of_mem _ hd)
  have hfit : Fit s := fun {y c} hc i hi => by
    obtain ⟨ha, rfl⟩ := Array.getElem?_eq_some_iff.mp hc
    have q := List.all_eq_true.mp ((Array.all_eq_true_iff_forall_mem.mp hF) _ (Array.getElem_mem ha)) i (List.mem_range.mpr hi)
    simpa [Array.getElem?_eq_getElem hi] using q
  obtain ⟨hsets, hown0⟩ := atoms_of _ (rest_1_c_eq ▸ (show rest_1_c.before _ s = true from hrest))
  have hr0 := Cond.before_iff.mp hown0
  obtain ⟨i0, ei0⟩ := is_v g3
  obtain rfl : w0 = (.int i0) := Option.some.inj ei0
  obtain ⟨i1, ei1⟩ := is_v g5
  obtain rfl : w1 = (.int i1) := Option.some.inj ei1
  obtain ⟨i2, ei2⟩ := is_v g7
  obtain rfl : w2 = (.int i2) := Option.some.inj ei2
  obtain ⟨i3, ei3⟩ := is_v g8
  obtain rfl : w3 = (.int i3) := Option.some.inj ei3
  obtain ⟨cs, ecs⟩ := is_v (Cond.before_iff.mp (hsets _ (wI 1 rfl)))
  have SCs : Sta s s.heap "java/lang/String" "COMPACT_STRINGS" "Z" (.int cs) := Sta.start ecs (Or.inl (hsets _ (wI 0 rfl)))
  have hcs : ¬ cs = (0 : Int32) := by
    intro q
    have z := Cond.before_iff.mp (hsets _ (wI 2 rfl))
    rw [q] at ecs
    simp [Cond.value, ecs, Term.int_eval] at z
  obtain ⟨d1, kd1, vo, ed1, VO⟩ := own_dig hfit (hsets _ (wI 12 rfl)) (hsets _ (wI 13 rfl)) (wJ hw 14 rfl)
  have SOs : Sta s s.heap "java/lang/Integer" "DigitOnes" "[B" (.ref d1) := Sta.start ed1 (Or.inl (hsets _ (wI 11 rfl)))
  obtain ⟨d2, kd2, vt, ed2, VT⟩ := own_dig hfit (hsets _ (wI 17 rfl)) (hsets _ (wI 18 rfl)) (wJ hw 14 rfl)
  have STs : Sta s s.heap "java/lang/Integer" "DigitTens" "[B" (.ref d2) := Sta.start ed2 (Or.inl (hsets _ (wI 16 rfl)))
  obtain ⟨n, o, h1, h2, h3, _, L, rfl, ⟨rfl, N⟩, hq⟩ := own_law l s _ hw tables_1 i0 i1 i2 i3 cs d1 d2 kd1 kd2 vo vt s.heap (fun _ _ q => q) hcalls.1 (hsets _ (wI 2 rfl)) (own_S.start SCs) hcs (own_S.start SOs) (own_S.start STs) VO VT VO.lt VT.lt p e ha hc hk s m _ below hf ((Spec.applies_iff_loose hf).mp happ).1 ⟨rfl, State.Warmed39.refl s, rfl, IB.start⟩ trivial
  refine ⟨n, _, h1, h2, h3, hpost _ _ _ _ _ _ ⟨Cond.after_iff.mpr rfl, Cond.after_iff.mpr (eq_i res_at (Term.int_eval (1)) rfl), trivial⟩ ⟨hq.1, hq.2.1, hq.2.2.1, (hq.2.2.2.sift fun y hy => Or.inr (N y hy)).mono (by decide) (by decide)⟩⟩
theorem main_1_1 : Claimed_1_1 := comes_1 fun _ _ _ _ _ _ h hF => ⟨h.1, hF⟩
theorem main_1_2 : Claimed_1_2 := comes_1 fun _ _ _ _ _ _ h hF => ⟨h.2.1, hF⟩
end Jvm.Pilot.@@N@@
namespace Jvm.Pilot.@@N@@
open Jvm Jvm.ClassFile Sem Op Lib Jvm.Free Jvm.Stand Jvm.Pilot.@@N@@.Jvm.D
/-! MADE BY PROGRAM (witnessworld.py) out of the Statement's table words and the real class files: 29 classes; the members and pool entries that the words name. The judged class is class 1, her method 1. -/
namespace start1
open Jvm.ClassFile
def u (s : String) : CpInfo := .utf8 (stringToUtf16 s)
/-- a pool by its gaps: so many unusable entries, then the entry; so many at the end -/
def gap : Nat → List CpInfo → List CpInfo
  | 0, r => r
  | n + 1, r => .unusable :: gap n r
def poolList (es : List (Nat × CpInfo)) (last : Nat) : List CpInfo := es.foldr (fun e r => gap e.1 (e.2 :: r)) (gap last [])
def pool (es : List (Nat × CpInfo)) (last : Nat) : Array CpInfo := ⟨poolList es last⟩
def fileOf (pool : Array CpInfo) (this : Nat) (attrs : Array Attribute := #[]) (ms : Array MethodInfo := #[]) (fl : Nat := 33) (sup : Nat := 0) (ifs : Array Nat := #[]) (fds : Array FieldInfo := #[]) : ClassFile where
  minorVersion := 0
  majorVersion := 65
  constantPool := pool
  accessFlags := fl
  thisClass := this
  superClass := sup
  interfaces := ifs
  fields := fds
  methods := ms
  attributes := attrs
def plain (name : String) (sup : Option ClassId) : Class where
  name := name
  kind := .ordinary
  loader := none
  accessFlags := 33
  super := sup
  interfaces := #[]
  cf := none
  fields := #[]
  methods := #[]
  instanceTypes := #[]
  staticTypes := #[]
  resolved := #[]
  callSites := []
  init := .initialized
  statics := none
  mirror := none

def pool0 : Array CpInfo := pool [(5, u "<init>"), (0, u "()V"), (1, .class_ 10), (1, u "java/lang/Object"), (85, u "clone"), (0, u "()Ljava/lang/Object;")] 26

def k0c0 : Code := { maxStack := 0, maxLocals := 1, code := object_method_1_code, exceptionTable := #[], attributes := #[] }
def k0m0 : Method := { name := "<init>", desc := "()V", sig := { parameters := [], returnType := none }, accessFlags := 1, code := some k0c0 }
def k0m1 : Method := { name := "clone", desc := "()Ljava/lang/Object;", sig := { parameters := [], returnType := some (.object "java/lang/Object") }, accessFlags := 260, code := none }
/-- java/lang/Object -/
def k0 : Class := { plain "java/lang/Object" none with
  accessFlags := 33
  interfaces := #[]
  cf := some (fileOf pool0 8 #[] #[{ accessFlags := 1, nameIndex := 5, descriptorIndex := 6, attributes := #[] }, { accessFlags := 260, nameIndex := 96, descriptorIndex := 97, attributes := #[] }] 33 0 #[] #[])
  fields := #[]
  methods := #[k0m0, k0m1]
  instanceTypes := #[]
  staticTypes := #[]
  resolved := Array.replicate 124 none
  statics := none }

def pool1 : Array CpInfo := pool [(2, .class_ 4), (0, .nameAndType 5 6), (0, u "java/lang/Object"), (0, u "<init>"), (0, u "()V"), (0, .methodref 8 9), (0, .class_ 10), (0, .nameAndType 11 12), (0, u "java/lang/String"), (0, u "valueOf"), (0, u "(C)Ljava/lang/String;"), (0, .class_ 14), (0, u "com/example/hemotide/hemotide/link/Frame"), (0, .methodref 13 16), (0, .nameAndType 5 17), (0, u "(JJJILjava/lang/String;ZZLjava/lang/String;)V"), (0, .long 2), (1, .long 10), (1, .long 11), (1, .string 25), (0, u "bad"), (0, .long 3), (1, .long 20), (1, .long 21), (1, .long 4), (1, .long 30), (1, .long 31), (1, .class_ 39), (0, u "com/example/hemotide/hemotide/link/Transfer"), (0, .methodref 38 3), (0, .methodref 38 42), (0, .nameAndType 43 44), (0, u "take"), (0, u "(Lcom/example/hemotide/hemotide/link/Frame;)Lcom/example/hemotide/hemotide/records/AstmMessage;"), (0, .methodref 38 46), (0, .nameAndType 47 48), (0, u "refuse"), (0, u "(Lcom/example/hemotide/hemotide/link/Frame;)Z"), (0, .methodref 8 50), (0, .nameAndType 51 52), (0, u "equals"), (0, u "(Ljava/lang/Object;)Z"), (0, .methodref 38 54), (0, .nameAndType 55 56), (0, u "refusal"), (0, u "(Lcom/example/hemotide/hemotide/link/Frame;)Ljava/lang/String;"), (0, .methodref 38 58), (0, .nameAndType 59 48), (0, u "repeats"), (0, .class_ 61), (0, u "com/example/hemotide/hemotide/link/TransferRefusePinLaw"), (2, u "law"), (0, u "(IIII)Z")] 6

def k1m0 : Method := { name := "<init>", desc := "()V", sig := { parameters := [], returnType := none }, accessFlags := 2, code := none }
def k1c1 : Code := { maxStack := 13, maxLocals := 22, code := code, exceptionTable := #[], attributes := #[] }
def k1m1 : Method := { name := "law", desc := "(IIII)Z", sig := { parameters := [.int, .int, .int, .int], returnType := some .boolean }, accessFlags := 9, code := some k1c1 }
/-- com/example/hemotide/hemotide/link/TransferRefusePinLaw -/
def k1 : Class := { plain "com/example/hemotide/hemotide/link/TransferRefusePinLaw" (some 0) with
  accessFlags := 49
  interfaces := #[]
  cf := some (fileOf pool1 60 #[] #[{ accessFlags := 2, nameIndex := 5, descriptorIndex := 6, attributes := #[] }, { accessFlags := 9, nameIndex := 64, descriptorIndex := 65, attributes := #[] }] 49 2 #[] #[])
  fields := #[]
  methods := #[k1m0, k1m1]
  instanceTypes := #[]
  staticTypes := #[]
  resolved := Array.replicate 72 none
  statics := none }

def pool2 : Array CpInfo := pool [(1, .class_ 2), (0, u "java/io/Serializable"), (0, .class_ 4), (0, u "java/lang/Object")] 2

/-- java/io/Serializable -/
def k2 : Class := { plain "java/io/Serializable" (some 0) with
  accessFlags := 1537
  interfaces := #[]
  cf := some (fileOf pool2 1 #[] #[] 1537 3 #[] #[])
  fields := #[]
  methods := #[]
  instanceTypes := #[]
  staticTypes := #[]
  resolved := Array.replicate 7 none
  statics := none }

def pool3 : Array CpInfo := pool [(1, .class_ 2), (0, u "java/lang/Comparable"), (0, .class_ 4), (0, u "java/lang/Object")] 7

/-- java/lang/Comparable -/
def k3 : Class := { plain "java/lang/Comparable" (some 0) with
  accessFlags := 1537
  interfaces := #[]
  cf := some (fileOf pool3 1 #[] #[] 1537 3 #[] #[])
  fields := #[]
  methods := #[]
  instanceTypes := #[]
  staticTypes := #[]
  resolved := Array.replicate 12 none
  statics := none }

def pool4 : Array CpInfo := pool [(2, .class_ 4), (1, u "java/lang/CharSequence"), (42, .class_ 48), (0, u "java/lang/CharSequence$1CodePointIterator"), (10, .class_ 60), (0, u "java/lang/CharSequence$1CharIterator"), (5, .class_ 67), (0, u "java/lang/Object")] 63

/-- java/lang/CharSequence -/
def k4 : Class := { plain "java/lang/CharSequence" (some 0) with
  accessFlags := 1537
  interfaces := #[]
  cf := some (fileOf pool4 2 #[.nestMembers #[47, 59]] #[] 1537 66 #[] #[])
  fields := #[]
  methods := #[]
  instanceTypes := #[]
  staticTypes := #[]
  resolved := Array.replicate 131 none
  statics := none }

def pool5 : Array CpInfo := pool [(1, .class_ 2), (0, u "java/lang/constant/Constable"), (0, .class_ 4), (0, u "java/lang/Object")] 6

/-- java/lang/constant/Constable -/
def k5 : Class := { plain "java/lang/constant/Constable" (some 0) with
  accessFlags := 1537
  interfaces := #[]
  cf := some (fileOf pool5 1 #[] #[] 1537 3 #[] #[])
  fields := #[]
  methods := #[]
  instanceTypes := #[]
  staticTypes := #[]
  resolved := Array.replicate 11 none
  statics := none }

def pool6 : Array CpInfo := pool [(1, .class_ 2), (0, u "java/lang/constant/ConstantDesc"), (0, .class_ 4), (0, u "java/lang/Object")] 32

/-- java/lang/constant/ConstantDesc -/
def k6 : Class := { plain "java/lang/constant/ConstantDesc" (some 0) with
  accessFlags := 1537
  interfaces := #[]
  cf := some (fileOf pool6 1 #[] #[] 1537 3 #[] #[])
  fields := #[]
  methods := #[]
  instanceTypes := #[]
  staticTypes := #[]
  resolved := Array.replicate 37 none
  statics := none }

def pool7 : Array CpInfo := pool [(1, .methodref 2 3), (0, .class_ 4), (0, .nameAndType 5 6), (0, u "java/lang/Object"), (0, u "<init>"), (0, u "()V"), (2, .fieldref 10 11), (0, .class_ 12), (0, .nameAndType 13 14), (0, u "java/lang/String"), (0, u "value"), (0, u "[B"), (0, .fieldref 10 16), (0, .nameAndType 17 18), (0, u "coder"), (0, u "B"), (2, u "hash"), (0, u "I"), (2, u "hashIsZero"), (0, u "Z"), (11, .fieldref 10 39), (0, .nameAndType 40 26), (0, u "COMPACT_STRINGS"), (12, u "toBytes"), (0, .methodref 55 56), (0, .class_ 57), (0, .nameAndType 58 59), (0, u "java/util/Arrays"), (0, u "copyOfRange"), (0, u "([BII)[B"), (47, .class_ 109), (1, u "java/lang/StringLatin1"), (32, u "()Z"), (50, .class_ 195), (1, u "java/lang/System"), (13, .methodref 10 210), (0, .nameAndType 5 211), (0, u "([BB)V"), (0, .methodref 193 213), (0, .nameAndType 214 215), (0, u "arraycopy"), (0, u "(Ljava/lang/Object;ILjava/lang/Object;II)V"), (118, u "()I"), (0, .methodref 10 336), (0, .nameAndType 17 337), (0, u "()B"), (2, u "()[B"), (28, u "(C)Z"), (119, .methodref 10 490), (0, .nameAndType 5 491), (0, u "(Ljava/lang/AbstractStringBuilder;Ljava/lang/Void;)V"), (1, .nameAndType 494 142), (0, u "isLatin1"), (11, .nameAndType 507 334), (0, u "length"), (24, u "getBytes"), (8, .methodref 107 542), (0, .nameAndType 543 544), (0, u "equals"), (0, u "([B[B)Z"), (4, .methodref 550 506), (0, .class_ 551), (0, u "java/lang/AbstractStringBuilder"), (0, .methodref 550 553), (0, .nameAndType 554 340), (0, u "getValue"), (18, u "(Ljava/lang/Object;)Z"), (1, .class_ 576), (0, u "java/lang/CharSequence"), (22, u "CASE_INSENSITIVE_ORDER"), (0, u "Ljava/util/Comparator;"), (181, u "valueOf"), (0, u "(C)Ljava/lang/String;"), (37, u "([BIB)V"), (193, .methodref 107 1016), (0, .nameAndType 1017 369), (0, u "canEncode"), (0, .methodref 107 1019), (0, .nameAndType 53 1020), (0, u "(C)[B"), (26, .methodref 550 493), (53, u "serialPersistentFields"), (0, u "[Ljava/io/ObjectStreamField;"), (0, .class_ 1104), (0, u "java/lang/String$CaseInsensitiveComparator"), (1, .class_ 1107), (0, u "java/io/Serializable"), (0, .class_ 1109), (0, u "java/lang/Comparable"), (0, .class_ 1111), (0, u "java/lang/constant/Constable"), (0, .class_ 1113), (0, u "java/lang/constant/ConstantDesc"), (2, u "serialVersionUID"), (0, u "J"), (3, u "REPL"), (0, u "C"), (2, u "LATIN1"), (1, u "UTF16"), (105, u "(Ljava/lang/StringBuilder;)V")] 217

def k7m0 : Method := { name := "<init>", desc := "()V", sig := { parameters := [], returnType := none }, accessFlags := 1, code := none }
def k7c1 : Code := { maxStack := 3, maxLocals := 2, code := jdk_42_method_53_code, exceptionTable := #[], attributes := #[] }
def k7m1 : Method := { name := "<init>", desc := "(Ljava/lang/StringBuilder;)V", sig := { parameters := [(.object "java/lang/StringBuilder")], returnType := none }, accessFlags := 1, code := some k7c1 }
def k7c2 : Code := { maxStack := 2, maxLocals := 1, code := jdk_42_method_54_code, exceptionTable := #[], attributes := #[] }
def k7m2 : Method := { name := "length", desc := "()I", sig := { parameters := [], returnType := some .int }, accessFlags := 1, code := some k7c2 }
def k7c3 : Code := { maxStack := 2, maxLocals := 3, code := jdk_42_method_66_code, exceptionTable := #[], attributes := #[] }
def k7m3 : Method := { name := "equals", desc := "(Ljava/lang/Object;)Z", sig := { parameters := [(.object "java/lang/Object")], returnType := some .boolean }, accessFlags := 1, code := some k7c3 }
def k7c4 : Code := { maxStack := 4, maxLocals := 1, code := jdk_42_method_139_code, exceptionTable := #[], attributes := #[] }
def k7m4 : Method := { name := "valueOf", desc := "(C)Ljava/lang/String;", sig := { parameters := [.char], returnType := some (.object "java/lang/String") }, accessFlags := 9, code := some k7c4 }
def k7c5 : Code := { maxStack := 5, maxLocals := 4, code := jdk_42_method_147_code, exceptionTable := #[], attributes := #[] }
def k7m5 : Method := { name := "getBytes", desc := "([BIB)V", sig := { parameters := [(.array .byte), .int, .byte], returnType := none }, accessFlags := 0, code := some k7c5 }
def k7c6 : Code := { maxStack := 5, maxLocals := 5, code := jdk_42_method_150_code, exceptionTable := #[], attributes := #[] }
def k7m6 : Method := { name := "<init>", desc := "(Ljava/lang/AbstractStringBuilder;Ljava/lang/Void;)V", sig := { parameters := [(.object "java/lang/AbstractStringBuilder"), (.object "java/lang/Void")], returnType := none }, accessFlags := 0, code := some k7c6 }
def k7c7 : Code := { maxStack := 2, maxLocals := 3, code := jdk_42_method_151_code, exceptionTable := #[], attributes := #[] }
def k7m7 : Method := { name := "<init>", desc := "([BB)V", sig := { parameters := [(.array .byte), .byte], returnType := none }, accessFlags := 0, code := some k7c7 }
def k7c8 : Code := { maxStack := 1, maxLocals := 1, code := jdk_42_method_152_code, exceptionTable := #[], attributes := #[] }
def k7m8 : Method := { name := "coder", desc := "()B", sig := { parameters := [], returnType := some .byte }, accessFlags := 0, code := some k7c8 }
/-- java/lang/String -/
def k7 : Class := { plain "java/lang/String" (some 0) with
  accessFlags := 49
  interfaces := #[2, 3, 4, 5, 6]
  cf := some (fileOf pool7 10 #[.nestMembers #[1103]] #[{ accessFlags := 1, nameIndex := 5, descriptorIndex := 6, attributes := #[] }, { accessFlags := 1, nameIndex := 5, descriptorIndex := 1233, attributes := #[] }, { accessFlags := 1, nameIndex := 507, descriptorIndex := 334, attributes := #[] }, { accessFlags := 1, nameIndex := 543, descriptorIndex := 573, attributes := #[] }, { accessFlags := 9, nameIndex := 782, descriptorIndex := 783, attributes := #[] }, { accessFlags := 0, nameIndex := 532, descriptorIndex := 821, attributes := #[] }, { accessFlags := 0, nameIndex := 5, descriptorIndex := 491, attributes := #[] }, { accessFlags := 0, nameIndex := 5, descriptorIndex := 211, attributes := #[] }, { accessFlags := 0, nameIndex := 17, descriptorIndex := 337, attributes := #[] }] 49 2 #[1106, 1108, 575, 1110, 1112] #[{ accessFlags := 18, nameIndex := 13, descriptorIndex := 14, attributes := #[] }, { accessFlags := 18, nameIndex := 17, descriptorIndex := 18, attributes := #[] }, { accessFlags := 2, nameIndex := 21, descriptorIndex := 22, attributes := #[] }, { accessFlags := 2, nameIndex := 25, descriptorIndex := 26, attributes := #[] }, { accessFlags := 26, nameIndex := 1116, descriptorIndex := 1117, attributes := #[] }, { accessFlags := 24, nameIndex := 40, descriptorIndex := 26, attributes := #[] }, { accessFlags := 26, nameIndex := 1101, descriptorIndex := 1102, attributes := #[] }, { accessFlags := 26, nameIndex := 1121, descriptorIndex := 1122, attributes := #[] }, { accessFlags := 25, nameIndex := 599, descriptorIndex := 600, attributes := #[] }, { accessFlags := 24, nameIndex := 1125, descriptorIndex := 18, attributes := #[] }, { accessFlags := 24, nameIndex := 1127, descriptorIndex := 18, attributes := #[] }])
  fields := #[{ name := "value", type := (.array .byte), accessFlags := 18, slot := 0, constantValue := 0 }, { name := "coder", type := .byte, accessFlags := 18, slot := 1, constantValue := 0 }, { name := "hash", type := .int, accessFlags := 2, slot := 2, constantValue := 0 }, { name := "hashIsZero", type := .boolean, accessFlags := 2, slot := 3, constantValue := 0 }, { name := "serialVersionUID", type := .long, accessFlags := 26, slot := 0, constantValue := 0 }, { name := "COMPACT_STRINGS", type := .boolean, accessFlags := 24, slot := 1, constantValue := 0 }, { name := "serialPersistentFields", type := (.array (.object "java/io/ObjectStreamField")), accessFlags := 26, slot := 2, constantValue := 0 }, { name := "REPL", type := .char, accessFlags := 26, slot := 3, constantValue := 0 }, { name := "CASE_INSENSITIVE_ORDER", type := (.object "java/util/Comparator"), accessFlags := 25, slot := 4, constantValue := 0 }, { name := "LATIN1", type := .byte, accessFlags := 24, slot := 5, constantValue := 0 }, { name := "UTF16", type := .byte, accessFlags := 24, slot := 6, constantValue := 0 }]
  methods := #[k7m0, k7m1, k7m2, k7m3, k7m4, k7m5, k7m6, k7m7, k7m8]
  instanceTypes := #[(.array .byte), .byte, .int, .boolean]
  staticTypes := #[.long, .boolean, (.array (.object "java/io/ObjectStreamField")), .char, (.object "java/util/Comparator"), .byte, .byte]
  resolved := Array.replicate 1451 none
  statics := some 0 }

def pool8 : Array CpInfo := pool [(4, .class_ 6), (1, u "java/lang/Object"), (0, u "<init>"), (0, u "()V"), (5, .class_ 16), (1, u "java/lang/StringLatin1"), (73, u "canEncode"), (14, u "(C)Z"), (15, u "$assertionsDisabled"), (0, u "Z"), (98, .class_ 223), (1, u "java/lang/StringLatin1$LinesSpliterator"), (57, u "equals"), (0, u "([B[B)Z"), (97, u "toBytes"), (1, u "(C)[B"), (7, .class_ 391), (0, u "java/lang/StringLatin1$CharsSpliterator")] 3

def k8m0 : Method := { name := "<init>", desc := "()V", sig := { parameters := [], returnType := none }, accessFlags := 0, code := none }
def k8c1 : Code := { maxStack := 2, maxLocals := 1, code := jdk_43_method_3_code, exceptionTable := #[], attributes := #[] }
def k8m1 : Method := { name := "canEncode", desc := "(C)Z", sig := { parameters := [.char], returnType := some .boolean }, accessFlags := 9, code := some k8c1 }
def k8c2 : Code := { maxStack := 3, maxLocals := 3, code := jdk_43_method_13_code, exceptionTable := #[], attributes := #[] }
def k8m2 : Method := { name := "equals", desc := "([B[B)Z", sig := { parameters := [(.array .byte), (.array .byte)], returnType := some .boolean }, accessFlags := 9, code := some k8c2 }
def k8c3 : Code := { maxStack := 4, maxLocals := 1, code := jdk_43_method_46_code, exceptionTable := #[], attributes := #[] }
def k8m3 : Method := { name := "toBytes", desc := "(C)[B", sig := { parameters := [.char], returnType := some (.array .byte) }, accessFlags := 9, code := some k8c3 }
/-- java/lang/StringLatin1 -/
def k8 : Class := { plain "java/lang/StringLatin1" (some 0) with
  accessFlags := 48
  interfaces := #[]
  cf := some (fileOf pool8 14 #[.nestMembers #[390, 221]] #[{ accessFlags := 0, nameIndex := 7, descriptorIndex := 8, attributes := #[] }, { accessFlags := 9, nameIndex := 90, descriptorIndex := 105, attributes := #[] }, { accessFlags := 9, nameIndex := 281, descriptorIndex := 282, attributes := #[] }, { accessFlags := 9, nameIndex := 380, descriptorIndex := 382, attributes := #[] }] 48 4 #[] #[{ accessFlags := 4120, nameIndex := 121, descriptorIndex := 122, attributes := #[] }])
  fields := #[{ name := "$assertionsDisabled", type := .boolean, accessFlags := 4120, slot := 0, constantValue := 0 }]
  methods := #[k8m0, k8m1, k8m2, k8m3]
  instanceTypes := #[]
  staticTypes := #[.boolean]
  resolved := Array.replicate 395 none
  statics := none }

def pool9 : Array CpInfo := pool [(1, .methodref 2 3), (0, .class_ 4), (0, .nameAndType 5 6), (0, u "java/lang/Object"), (0, u "<init>"), (0, u "()V"), (0, .class_ 8), (0, u "java/lang/Record")] 13

def k9c0 : Code := { maxStack := 1, maxLocals := 1, code := jdk_30_method_1_code, exceptionTable := #[], attributes := #[] }
def k9m0 : Method := { name := "<init>", desc := "()V", sig := { parameters := [], returnType := none }, accessFlags := 4, code := some k9c0 }
/-- java/lang/Record -/
def k9 : Class := { plain "java/lang/Record" (some 0) with
  accessFlags := 1057
  interfaces := #[]
  cf := some (fileOf pool9 7 #[] #[{ accessFlags := 4, nameIndex := 5, descriptorIndex := 6, attributes := #[] }] 1057 2 #[] #[])
  fields := #[]
  methods := #[k9m0]
  instanceTypes := #[]
  staticTypes := #[]
  resolved := Array.replicate 22 none
  statics := none }

def pool10 : Array CpInfo := pool [(1, .class_ 2), (0, u "com/example/hemotide/hemotide/link/LinkEvent"), (0, .class_ 4), (0, u "java/lang/Object"), (7, .class_ 13), (0, u "com/example/hemotide/hemotide/link/LinkEvent$Eot"), (0, .class_ 15), (0, u "com/example/hemotide/hemotide/link/LinkEvent$Enq")] 6

/-- com/example/hemotide/hemotide/link/LinkEvent -/
def k10 : Class := { plain "com/example/hemotide/hemotide/link/LinkEvent" (some 0) with
  accessFlags := 1537
  interfaces := #[]
  cf := some (fileOf pool10 1 #[.nestMembers #[12, 14]] #[] 1537 3 #[] #[])
  fields := #[]
  methods := #[]
  instanceTypes := #[]
  staticTypes := #[]
  resolved := Array.replicate 22 none
  statics := none }

def pool11 : Array CpInfo := pool [(1, .methodref 2 3), (0, .class_ 4), (0, .nameAndType 5 6), (0, u "java/lang/Record"), (0, u "<init>"), (0, u "()V"), (0, .fieldref 8 9), (0, .class_ 10), (0, .nameAndType 11 12), (0, u "com/example/hemotide/hemotide/link/Frame"), (0, u "position"), (0, u "J"), (0, .fieldref 8 14), (0, .nameAndType 15 12), (0, u "offset"), (0, .fieldref 8 17), (0, .nameAndType 18 12), (0, u "end"), (0, .fieldref 8 20), (0, .nameAndType 21 22), (0, u "number"), (0, u "I"), (0, .fieldref 8 24), (0, .nameAndType 25 26), (0, u "text"), (0, u "Ljava/lang/String;"), (0, .fieldref 8 28), (0, .nameAndType 29 30), (0, u "endsRecord"), (0, u "Z"), (0, .fieldref 8 32), (0, .nameAndType 33 30), (0, u "complete"), (0, .fieldref 8 35), (0, .nameAndType 36 26), (0, u "defect"), (0, .class_ 38), (0, u "java/lang/StringBuilder"), (0, .methodref 37 3), (0, .string 41), (0, u "frame "), (0, .methodref 37 43), (0, .nameAndType 44 45), (0, u "append"), (0, u "(Ljava/lang/String;)Ljava/lang/StringBuilder;"), (0, .methodref 37 47), (0, .nameAndType 44 48), (0, u "(J)Ljava/lang/StringBuilder;"), (0, .string 50), (0, u " (byte "), (0, .string 52), (0, u ")"), (0, .methodref 37 54), (0, .nameAndType 55 56), (0, u "toString"), (0, u "()Ljava/lang/String;"), (11, .class_ 69), (0, u "com/example/hemotide/hemotide/link/LinkEvent"), (0, u "(JJJILjava/lang/String;ZZLjava/lang/String;)V"), (3, u "describe"), (0, u "()I"), (2, u "()Z")] 27

def k11c0 : Code := { maxStack := 3, maxLocals := 12, code := prog_22_method_1_code, exceptionTable := #[], attributes := #[] }
def k11m0 : Method := { name := "<init>", desc := "(JJJILjava/lang/String;ZZLjava/lang/String;)V", sig := { parameters := [.long, .long, .long, .int, (.object "java/lang/String"), .boolean, .boolean, (.object "java/lang/String")], returnType := none }, accessFlags := 1, code := some k11c0 }
def k11c1 : Code := { maxStack := 3, maxLocals := 1, code := prog_22_method_2_code, exceptionTable := #[], attributes := #[] }
def k11m1 : Method := { name := "describe", desc := "()Ljava/lang/String;", sig := { parameters := [], returnType := some (.object "java/lang/String") }, accessFlags := 1, code := some k11c1 }
def k11c2 : Code := { maxStack := 1, maxLocals := 1, code := prog_22_method_9_code, exceptionTable := #[], attributes := #[] }
def k11m2 : Method := { name := "number", desc := "()I", sig := { parameters := [], returnType := some .int }, accessFlags := 1, code := some k11c2 }
def k11c3 : Code := { maxStack := 1, maxLocals := 1, code := prog_22_method_10_code, exceptionTable := #[], attributes := #[] }
def k11m3 : Method := { name := "text", desc := "()Ljava/lang/String;", sig := { parameters := [], returnType := some (.object "java/lang/String") }, accessFlags := 1, code := some k11c3 }
def k11c4 : Code := { maxStack := 1, maxLocals := 1, code := prog_22_method_11_code, exceptionTable := #[], attributes := #[] }
def k11m4 : Method := { name := "endsRecord", desc := "()Z", sig := { parameters := [], returnType := some .boolean }, accessFlags := 1, code := some k11c4 }
def k11c5 : Code := { maxStack := 1, maxLocals := 1, code := prog_22_method_13_code, exceptionTable := #[], attributes := #[] }
def k11m5 : Method := { name := "defect", desc := "()Ljava/lang/String;", sig := { parameters := [], returnType := some (.object "java/lang/String") }, accessFlags := 1, code := some k11c5 }
/-- com/example/hemotide/hemotide/link/Frame -/
def k11 : Class := { plain "com/example/hemotide/hemotide/link/Frame" (some 9) with
  accessFlags := 49
  interfaces := #[10]
  cf := some (fileOf pool11 8 #[] #[{ accessFlags := 1, nameIndex := 5, descriptorIndex := 70, attributes := #[] }, { accessFlags := 1, nameIndex := 74, descriptorIndex := 56, attributes := #[] }, { accessFlags := 1, nameIndex := 21, descriptorIndex := 75, attributes := #[] }, { accessFlags := 1, nameIndex := 25, descriptorIndex := 56, attributes := #[] }, { accessFlags := 1, nameIndex := 29, descriptorIndex := 78, attributes := #[] }, { accessFlags := 1, nameIndex := 36, descriptorIndex := 56, attributes := #[] }] 49 2 #[68] #[{ accessFlags := 18, nameIndex := 11, descriptorIndex := 12, attributes := #[] }, { accessFlags := 18, nameIndex := 15, descriptorIndex := 12, attributes := #[] }, { accessFlags := 18, nameIndex := 18, descriptorIndex := 12, attributes := #[] }, { accessFlags := 18, nameIndex := 21, descriptorIndex := 22, attributes := #[] }, { accessFlags := 18, nameIndex := 25, descriptorIndex := 26, attributes := #[] }, { accessFlags := 18, nameIndex := 29, descriptorIndex := 30, attributes := #[] }, { accessFlags := 18, nameIndex := 33, descriptorIndex := 30, attributes := #[] }, { accessFlags := 18, nameIndex := 36, descriptorIndex := 26, attributes := #[] }])
  fields := #[{ name := "position", type := .long, accessFlags := 18, slot := 0, constantValue := 0 }, { name := "offset", type := .long, accessFlags := 18, slot := 1, constantValue := 0 }, { name := "end", type := .long, accessFlags := 18, slot := 2, constantValue := 0 }, { name := "number", type := .int, accessFlags := 18, slot := 3, constantValue := 0 }, { name := "text", type := (.object "java/lang/String"), accessFlags := 18, slot := 4, constantValue := 0 }, { name := "endsRecord", type := .boolean, accessFlags := 18, slot := 5, constantValue := 0 }, { name := "complete", type := .boolean, accessFlags := 18, slot := 6, constantValue := 0 }, { name := "defect", type := (.object "java/lang/String"), accessFlags := 18, slot := 7, constantValue := 0 }]
  methods := #[k11m0, k11m1, k11m2, k11m3, k11m4, k11m5]
  instanceTypes := #[.long, .long, .long, .int, (.object "java/lang/String"), .boolean, .boolean, (.object "java/lang/String")]
  staticTypes := #[]
  resolved := Array.replicate 106 none
  statics := none }

def pool12 : Array CpInfo := pool [(1, .methodref 2 3), (0, .class_ 4), (0, .nameAndType 5 6), (0, u "java/lang/Object"), (0, u "<init>"), (0, u "()V"), (0, .class_ 8), (0, u "com/example/hemotide/hemotide/link/MessageAssembler"), (0, .methodref 7 3), (0, .fieldref 11 12), (0, .class_ 13), (0, .nameAndType 14 15), (0, u "com/example/hemotide/hemotide/link/Transfer"), (0, u "assembler"), (0, u "Lcom/example/hemotide/hemotide/link/MessageAssembler;"), (0, .class_ 17), (0, u "com/example/hemotide/hemotide/link/E1381"), (0, .fieldref 11 19), (0, .nameAndType 20 21), (0, u "due"), (0, u "I"), (0, .methodref 23 24), (0, .class_ 25), (0, .nameAndType 26 27), (0, u "com/example/hemotide/hemotide/link/Frame"), (0, u "defect"), (0, u "()Ljava/lang/String;"), (0, .methodref 23 29), (0, .nameAndType 30 31), (0, u "number"), (0, u "()I"), (0, .methodref 11 33), (0, .nameAndType 34 35), (0, u "repeats"), (0, u "(Lcom/example/hemotide/hemotide/link/Frame;)Z"), (0, .class_ 37), (0, u "java/lang/StringBuilder"), (0, .methodref 36 3), (2, .methodref 36 42), (0, .nameAndType 43 44), (0, u "append"), (0, u "(Ljava/lang/String;)Ljava/lang/StringBuilder;"), (7, .methodref 36 53), (0, .nameAndType 54 27), (0, u "toString"), (0, .fieldref 11 56), (0, .nameAndType 57 58), (0, u "awaited"), (0, u "Lcom/example/hemotide/hemotide/link/Frame;"), (0, .methodref 23 60), (0, .nameAndType 61 27), (0, u "text"), (0, .methodref 63 64), (0, .class_ 65), (0, .nameAndType 66 67), (0, u "java/lang/String"), (0, u "equals"), (0, u "(Ljava/lang/Object;)Z"), (0, .string 69), (0, u "it is not "), (0, .methodref 23 71), (0, .nameAndType 72 27), (0, u "describe"), (0, .string 74), (0, u ", refused before it, sent again, and no other frame is taken in that one's place"), (0, .fieldref 11 76), (0, .nameAndType 77 58), (0, u "repeatable"), (0, .fieldref 11 79), (0, .nameAndType 80 21), (0, u "refusedInARow"), (0, .methodref 16 82), (0, .nameAndType 83 84), (0, u "frameNumberAfter"), (0, u "(I)I"), (0, .methodref 7 86), (0, .nameAndType 87 88), (0, u "add"), (0, u "(Lcom/example/hemotide/hemotide/link/Frame;)Lcom/example/hemotide/hemotide/records/AstmMessage;"), (6, u "refusal"), (0, u "(Lcom/example/hemotide/hemotide/link/Frame;)Ljava/lang/String;"), (1, u "refuse"), (0, u "take")] 7

def k12c0 : Code := { maxStack := 3, maxLocals := 1, code := prog_35_method_1_code, exceptionTable := #[], attributes := #[] }
def k12m0 : Method := { name := "<init>", desc := "()V", sig := { parameters := [], returnType := none }, accessFlags := 0, code := some k12c0 }
def k12c1 : Code := { maxStack := 2, maxLocals := 2, code := prog_35_method_2_code, exceptionTable := #[], attributes := #[] }
def k12m1 : Method := { name := "refusal", desc := "(Lcom/example/hemotide/hemotide/link/Frame;)Ljava/lang/String;", sig := { parameters := [(.object "com/example/hemotide/hemotide/link/Frame")], returnType := some (.object "java/lang/String") }, accessFlags := 0, code := some k12c1 }
def k12c2 : Code := { maxStack := 2, maxLocals := 2, code := prog_35_method_3_code, exceptionTable := #[], attributes := #[] }
def k12m2 : Method := { name := "repeats", desc := "(Lcom/example/hemotide/hemotide/link/Frame;)Z", sig := { parameters := [(.object "com/example/hemotide/hemotide/link/Frame")], returnType := some .boolean }, accessFlags := 0, code := some k12c2 }
def k12c3 : Code := { maxStack := 3, maxLocals := 2, code := prog_35_method_4_code, exceptionTable := #[], attributes := #[] }
def k12m3 : Method := { name := "refuse", desc := "(Lcom/example/hemotide/hemotide/link/Frame;)Z", sig := { parameters := [(.object "com/example/hemotide/hemotide/link/Frame")], returnType := some .boolean }, accessFlags := 0, code := some k12c3 }
def k12c4 : Code := { maxStack := 2, maxLocals := 2, code := prog_35_method_5_code, exceptionTable := #[], attributes := #[] }
def k12m4 : Method := { name := "take", desc := "(Lcom/example/hemotide/hemotide/link/Frame;)Lcom/example/hemotide/hemotide/records/AstmMessage;", sig := { parameters := [(.object "com/example/hemotide/hemotide/link/Frame")], returnType := some (.object "com/example/hemotide/hemotide/records/AstmMessage") }, accessFlags := 0, code := some k12c4 }
/-- com/example/hemotide/hemotide/link/Transfer -/
def k12 : Class := { plain "com/example/hemotide/hemotide/link/Transfer" (some 0) with
  accessFlags := 48
  interfaces := #[]
  cf := some (fileOf pool12 11 #[] #[{ accessFlags := 0, nameIndex := 5, descriptorIndex := 6, attributes := #[] }, { accessFlags := 0, nameIndex := 95, descriptorIndex := 96, attributes := #[] }, { accessFlags := 0, nameIndex := 34, descriptorIndex := 35, attributes := #[] }, { accessFlags := 0, nameIndex := 98, descriptorIndex := 35, attributes := #[] }, { accessFlags := 0, nameIndex := 99, descriptorIndex := 88, attributes := #[] }] 48 2 #[] #[{ accessFlags := 18, nameIndex := 14, descriptorIndex := 15, attributes := #[] }, { accessFlags := 2, nameIndex := 20, descriptorIndex := 21, attributes := #[] }, { accessFlags := 2, nameIndex := 77, descriptorIndex := 58, attributes := #[] }, { accessFlags := 2, nameIndex := 57, descriptorIndex := 58, attributes := #[] }, { accessFlags := 2, nameIndex := 80, descriptorIndex := 21, attributes := #[] }])
  fields := #[{ name := "assembler", type := (.object "com/example/hemotide/hemotide/link/MessageAssembler"), accessFlags := 18, slot := 0, constantValue := 0 }, { name := "due", type := .int, accessFlags := 2, slot := 1, constantValue := 0 }, { name := "repeatable", type := (.object "com/example/hemotide/hemotide/link/Frame"), accessFlags := 2, slot := 2, constantValue := 0 }, { name := "awaited", type := (.object "com/example/hemotide/hemotide/link/Frame"), accessFlags := 2, slot := 3, constantValue := 0 }, { name := "refusedInARow", type := .int, accessFlags := 2, slot := 4, constantValue := 0 }]
  methods := #[k12m0, k12m1, k12m2, k12m3, k12m4]
  instanceTypes := #[(.object "com/example/hemotide/hemotide/link/MessageAssembler"), .int, (.object "com/example/hemotide/hemotide/link/Frame"), (.object "com/example/hemotide/hemotide/link/Frame"), .int]
  staticTypes := #[]
  resolved := Array.replicate 107 none
  statics := none }

def pool13 : Array CpInfo := pool [(1, .methodref 2 3), (0, .class_ 4), (0, .nameAndType 5 6), (0, u "java/lang/Object"), (0, u "<init>"), (0, u "()V"), (0, .class_ 8), (0, u "java/lang/StringBuilder"), (0, .methodref 7 3), (0, .fieldref 11 12), (0, .class_ 13), (0, .nameAndType 14 15), (0, u "com/example/hemotide/hemotide/link/MessageAssembler"), (0, u "record"), (0, u "Ljava/lang/StringBuilder;"), (0, .fieldref 11 17), (0, .nameAndType 18 19), (0, u "recordStart"), (0, u "Lcom/example/hemotide/hemotide/link/Frame;"), (0, .methodref 21 22), (0, .class_ 23), (0, .nameAndType 24 25), (0, u "com/example/hemotide/hemotide/link/Frame"), (0, u "text"), (0, u "()Ljava/lang/String;"), (0, .methodref 7 27), (0, .nameAndType 28 29), (0, u "append"), (0, u "(Ljava/lang/String;)Ljava/lang/StringBuilder;"), (0, .methodref 7 31), (0, .nameAndType 32 33), (0, u "length"), (0, u "()I"), (0, .methodref 21 35), (0, .nameAndType 36 37), (0, u "endsRecord"), (0, u "()Z"), (6, .fieldref 11 45), (0, .nameAndType 46 47), (0, u "characters"), (0, u "I"), (0, .integer 250000), (34, u "texts"), (0, u "Ljava/util/List;"), (4, u "messageStart"), (19, u "delimiters"), (0, u "Lcom/example/hemotide/hemotide/records/Delimiters;"), (32, u "components"), (29, u "add"), (42, u "MAX_CHARACTERS"), (1, u "MAX_COMPONENTS"), (5, u "(Lcom/example/hemotide/hemotide/link/Frame;)Lcom/example/hemotide/hemotide/records/AstmMessage;")] 4

def k13c0 : Code := { maxStack := 3, maxLocals := 1, code := prog_33_method_1_code, exceptionTable := #[], attributes := #[] }
def k13m0 : Method := { name := "<init>", desc := "()V", sig := { parameters := [], returnType := none }, accessFlags := 1, code := some k13c0 }
def k13c1 : Code := { maxStack := 3, maxLocals := 5, code := prog_33_method_2_code, exceptionTable := #[], attributes := #[] }
def k13m1 : Method := { name := "add", desc := "(Lcom/example/hemotide/hemotide/link/Frame;)Lcom/example/hemotide/hemotide/records/AstmMessage;", sig := { parameters := [(.object "com/example/hemotide/hemotide/link/Frame")], returnType := some (.object "com/example/hemotide/hemotide/records/AstmMessage") }, accessFlags := 0, code := some k13c1 }
/-- com/example/hemotide/hemotide/link/MessageAssembler -/
def k13 : Class := { plain "com/example/hemotide/hemotide/link/MessageAssembler" (some 0) with
  accessFlags := 49
  interfaces := #[]
  cf := some (fileOf pool13 11 #[] #[{ accessFlags := 1, nameIndex := 5, descriptorIndex := 6, attributes := #[] }, { accessFlags := 0, nameIndex := 173, descriptorIndex := 224, attributes := #[] }] 49 2 #[] #[{ accessFlags := 25, nameIndex := 216, descriptorIndex := 47, attributes := #[] }, { accessFlags := 24, nameIndex := 218, descriptorIndex := 47, attributes := #[] }, { accessFlags := 18, nameIndex := 14, descriptorIndex := 15, attributes := #[] }, { accessFlags := 2, nameIndex := 18, descriptorIndex := 19, attributes := #[] }, { accessFlags := 2, nameIndex := 83, descriptorIndex := 84, attributes := #[] }, { accessFlags := 2, nameIndex := 109, descriptorIndex := 110, attributes := #[] }, { accessFlags := 2, nameIndex := 89, descriptorIndex := 19, attributes := #[] }, { accessFlags := 2, nameIndex := 46, descriptorIndex := 47, attributes := #[] }, { accessFlags := 2, nameIndex := 143, descriptorIndex := 47, attributes := #[] }])
  fields := #[{ name := "MAX_CHARACTERS", type := .int, accessFlags := 25, slot := 0, constantValue := 0 }, { name := "MAX_COMPONENTS", type := .int, accessFlags := 24, slot := 1, constantValue := 0 }, { name := "record", type := (.object "java/lang/StringBuilder"), accessFlags := 18, slot := 0, constantValue := 0 }, { name := "recordStart", type := (.object "com/example/hemotide/hemotide/link/Frame"), accessFlags := 2, slot := 1, constantValue := 0 }, { name := "texts", type := (.object "java/util/List"), accessFlags := 2, slot := 2, constantValue := 0 }, { name := "delimiters", type := (.object "com/example/hemotide/hemotide/records/Delimiters"), accessFlags := 2, slot := 3, constantValue := 0 }, { name := "messageStart", type := (.object "com/example/hemotide/hemotide/link/Frame"), accessFlags := 2, slot := 4, constantValue := 0 }, { name := "characters", type := .int, accessFlags := 2, slot := 5, constantValue := 0 }, { name := "components", type := .int, accessFlags := 2, slot := 6, constantValue := 0 }]
  methods := #[k13m0, k13m1]
  instanceTypes := #[(.object "java/lang/StringBuilder"), (.object "com/example/hemotide/hemotide/link/Frame"), (.object "java/util/List"), (.object "com/example/hemotide/hemotide/records/Delimiters"), (.object "com/example/hemotide/hemotide/link/Frame"), .int, .int]
  staticTypes := #[.int, .int]
  resolved := Array.replicate 229 none
  statics := none }

def pool14 : Array CpInfo := pool [(1, .class_ 2), (0, u "java/lang/Appendable"), (0, .class_ 4), (0, u "java/lang/Object")] 9

/-- java/lang/Appendable -/
def k14 : Class := { plain "java/lang/Appendable" (some 0) with
  accessFlags := 1537
  interfaces := #[]
  cf := some (fileOf pool14 1 #[] #[] 1537 3 #[] #[])
  fields := #[]
  methods := #[]
  instanceTypes := #[]
  staticTypes := #[]
  resolved := Array.replicate 14 none
  statics := none }

def pool15 : Array CpInfo := pool [(1, .class_ 2), (0, u "java/lang/String"), (0, .methodref 4 5), (0, .class_ 6), (0, .nameAndType 7 8), (0, u "java/lang/Object"), (0, u "<init>"), (0, u "()V"), (1, .class_ 12), (1, u "java/lang/AbstractStringBuilder"), (0, u "EMPTYVALUE"), (0, u "[B"), (0, .fieldref 10 16), (0, .nameAndType 17 14), (0, u "value"), (0, .fieldref 1 19), (0, .nameAndType 20 21), (0, u "COMPACT_STRINGS"), (0, u "Z"), (0, .fieldref 10 23), (0, .nameAndType 24 25), (0, u "coder"), (0, u "B"), (6, .methodref 1 33), (0, .nameAndType 34 35), (0, u "length"), (0, u "()I"), (3, .integer 2147483647), (0, .methodref 1 41), (0, .nameAndType 24 42), (0, u "()B"), (2, u "append"), (0, u "(Ljava/lang/String;)Ljava/lang/AbstractStringBuilder;"), (1, .class_ 49), (0, u "java/lang/CharSequence"), (19, u "(Ljava/lang/String;)V"), (5, u "maybeLatin1"), (3, .fieldref 10 80), (0, .nameAndType 81 82), (0, u "count"), (0, u "I"), (0, .methodref 10 84), (0, .nameAndType 85 86), (0, u "isLatin1"), (0, u "()Z"), (13, .methodref 10 101), (0, .nameAndType 102 103), (0, u "ensureCapacityInternal"), (0, u "(I)V"), (0, .methodref 10 105), (0, .nameAndType 106 107), (0, u "newCapacity"), (0, u "(I)I"), (0, .methodref 109 110), (0, .class_ 111), (0, .nameAndType 112 113), (0, u "java/util/Arrays"), (0, u "copyOf"), (0, u "([BI)[B"), (0, .methodref 115 116), (0, .class_ 117), (0, .nameAndType 118 119), (0, u "jdk/internal/util/ArraysSupport"), (0, u "newLength"), (0, u "(III)I"), (68, u "getChars"), (19, .methodref 10 209), (0, .nameAndType 210 211), (0, u "putStringAt"), (0, u "(ILjava/lang/String;)V"), (5, u "inflateIfNeededFor"), (2, .nameAndType 221 222), (0, u "getBytes"), (0, u "([BIB)V"), (24, u "stringSize"), (6, .methodref 255 256), (0, .class_ 257), (0, .nameAndType 247 258), (0, u "java/lang/Long"), (0, u "(J)I"), (0, .methodref 255 260), (0, .nameAndType 188 261), (0, u "(JI[B)I"), (135, .methodref 10 398), (0, .nameAndType 217 69), (0, .methodref 1 220), (3, u "()[B"), (40, .class_ 445), (0, u "java/lang/Appendable"), (67, u "(J)Ljava/lang/AbstractStringBuilder;"), (38, u "getValue")] 56

def k15m0 : Method := { name := "<init>", desc := "()V", sig := { parameters := [], returnType := none }, accessFlags := 0, code := none }
def k15c1 : Code := { maxStack := 2, maxLocals := 2, code := jdk_68_method_2_code, exceptionTable := #[], attributes := #[] }
def k15m1 : Method := { name := "<init>", desc := "(I)V", sig := { parameters := [.int], returnType := none }, accessFlags := 0, code := some k15c1 }
def k15c2 : Code := { maxStack := 1, maxLocals := 1, code := jdk_68_method_6_code, exceptionTable := #[], attributes := #[] }
def k15m2 : Method := { name := "length", desc := "()I", sig := { parameters := [], returnType := some .int }, accessFlags := 1, code := some k15c2 }
def k15c3 : Code := { maxStack := 4, maxLocals := 3, code := jdk_68_method_9_code, exceptionTable := #[], attributes := #[] }
def k15m3 : Method := { name := "ensureCapacityInternal", desc := "(I)V", sig := { parameters := [.int], returnType := none }, accessFlags := 2, code := some k15c3 }
def k15c4 : Code := { maxStack := 5, maxLocals := 6, code := jdk_68_method_10_code, exceptionTable := #[], attributes := #[] }
def k15m4 : Method := { name := "newCapacity", desc := "(I)I", sig := { parameters := [.int], returnType := some .int }, accessFlags := 2, code := some k15c4 }
def k15c5 : Code := { maxStack := 3, maxLocals := 3, code := jdk_68_method_22_code, exceptionTable := #[], attributes := #[] }
def k15m5 : Method := { name := "append", desc := "(Ljava/lang/String;)Ljava/lang/AbstractStringBuilder;", sig := { parameters := [(.object "java/lang/String")], returnType := some (.object "java/lang/AbstractStringBuilder") }, accessFlags := 1, code := some k15c5 }
def k15c6 : Code := { maxStack := 5, maxLocals := 5, code := jdk_68_method_33_code, exceptionTable := #[], attributes := #[] }
def k15m6 : Method := { name := "append", desc := "(J)Ljava/lang/AbstractStringBuilder;", sig := { parameters := [.long], returnType := some (.object "java/lang/AbstractStringBuilder") }, accessFlags := 1, code := some k15c6 }
def k15c7 : Code := { maxStack := 1, maxLocals := 1, code := jdk_68_method_64_code, exceptionTable := #[], attributes := #[] }
def k15m7 : Method := { name := "getValue", desc := "()[B", sig := { parameters := [], returnType := some (.array .byte) }, accessFlags := 16, code := some k15c7 }
def k15c8 : Code := { maxStack := 1, maxLocals := 1, code := jdk_68_method_68_code, exceptionTable := #[], attributes := #[] }
def k15m8 : Method := { name := "isLatin1", desc := "()Z", sig := { parameters := [], returnType := some .boolean }, accessFlags := 16, code := some k15c8 }
def k15c9 : Code := { maxStack := 2, maxLocals := 2, code := jdk_68_method_71_code, exceptionTable := #[], attributes := #[] }
def k15m9 : Method := { name := "inflateIfNeededFor", desc := "(Ljava/lang/String;)V", sig := { parameters := [(.object "java/lang/String")], returnType := none }, accessFlags := 2, code := some k15c9 }
def k15c10 : Code := { maxStack := 4, maxLocals := 3, code := jdk_68_method_73_code, exceptionTable := #[], attributes := #[] }
def k15m10 : Method := { name := "putStringAt", desc := "(ILjava/lang/String;)V", sig := { parameters := [.int, (.object "java/lang/String")], returnType := none }, accessFlags := 2, code := some k15c10 }
/-- java/lang/AbstractStringBuilder -/
def k15 : Class := { plain "java/lang/AbstractStringBuilder" (some 0) with
  accessFlags := 1056
  interfaces := #[14, 4]
  cf := some (fileOf pool15 10 #[] #[{ accessFlags := 0, nameIndex := 7, descriptorIndex := 8, attributes := #[] }, { accessFlags := 0, nameIndex := 7, descriptorIndex := 103, attributes := #[] }, { accessFlags := 1, nameIndex := 34, descriptorIndex := 35, attributes := #[] }, { accessFlags := 2, nameIndex := 102, descriptorIndex := 103, attributes := #[] }, { accessFlags := 2, nameIndex := 106, descriptorIndex := 107, attributes := #[] }, { accessFlags := 1, nameIndex := 45, descriptorIndex := 46, attributes := #[] }, { accessFlags := 1, nameIndex := 45, descriptorIndex := 513, attributes := #[] }, { accessFlags := 16, nameIndex := 552, descriptorIndex := 403, attributes := #[] }, { accessFlags := 16, nameIndex := 85, descriptorIndex := 86, attributes := #[] }, { accessFlags := 2, nameIndex := 217, descriptorIndex := 69, attributes := #[] }, { accessFlags := 2, nameIndex := 210, descriptorIndex := 211, attributes := #[] }] 1056 4 #[444, 48] #[{ accessFlags := 0, nameIndex := 17, descriptorIndex := 14, attributes := #[] }, { accessFlags := 0, nameIndex := 24, descriptorIndex := 25, attributes := #[] }, { accessFlags := 0, nameIndex := 75, descriptorIndex := 21, attributes := #[] }, { accessFlags := 0, nameIndex := 81, descriptorIndex := 82, attributes := #[] }, { accessFlags := 26, nameIndex := 13, descriptorIndex := 14, attributes := #[] }])
  fields := #[{ name := "value", type := (.array .byte), accessFlags := 0, slot := 0, constantValue := 0 }, { name := "coder", type := .byte, accessFlags := 0, slot := 1, constantValue := 0 }, { name := "maybeLatin1", type := .boolean, accessFlags := 0, slot := 2, constantValue := 0 }, { name := "count", type := .int, accessFlags := 0, slot := 3, constantValue := 0 }, { name := "EMPTYVALUE", type := (.array .byte), accessFlags := 26, slot := 0, constantValue := 0 }]
  methods := #[k15m0, k15m1, k15m2, k15m3, k15m4, k15m5, k15m6, k15m7, k15m8, k15m9, k15m10]
  instanceTypes := #[(.array .byte), .byte, .boolean, .int]
  staticTypes := #[(.array .byte)]
  resolved := Array.replicate 609 none
  statics := none }

def pool16 : Array CpInfo := pool [(1, .methodref 2 3), (0, .class_ 4), (0, .nameAndType 5 6), (0, u "java/lang/AbstractStringBuilder"), (0, u "<init>"), (0, u "(I)V"), (11, .class_ 20), (1, u "java/lang/String"), (3, .class_ 26), (1, u "java/lang/StringBuilder"), (0, u "append"), (0, u "(Ljava/lang/String;)Ljava/lang/StringBuilder;"), (0, .methodref 2 30), (0, .nameAndType 27 31), (0, u "(Ljava/lang/String;)Ljava/lang/AbstractStringBuilder;"), (24, .methodref 2 57), (0, .nameAndType 27 58), (0, u "(J)Ljava/lang/AbstractStringBuilder;"), (78, .methodref 18 138), (0, .nameAndType 5 139), (0, u "(Ljava/lang/StringBuilder;)V"), (5, u "()V"), (10, u "()I"), (124, u "(J)Ljava/lang/StringBuilder;"), (61, .methodref 2 344), (0, .nameAndType 345 156), (0, u "length"), (3, .class_ 350), (0, u "java/lang/Appendable"), (0, .class_ 352), (0, u "java/io/Serializable"), (0, .class_ 354), (0, u "java/lang/Comparable"), (0, .class_ 356), (0, u "java/lang/CharSequence"), (0, u "serialVersionUID"), (0, u "J"), (40, u "toString"), (0, u "()Ljava/lang/String;")] 21

def k16c0 : Code := { maxStack := 2, maxLocals := 1, code := jdk_67_method_1_code, exceptionTable := #[], attributes := #[] }
def k16m0 : Method := { name := "<init>", desc := "()V", sig := { parameters := [], returnType := none }, accessFlags := 1, code := some k16c0 }
def k16c1 : Code := { maxStack := 2, maxLocals := 2, code := jdk_67_method_7_code, exceptionTable := #[], attributes := #[] }
def k16m1 : Method := { name := "append", desc := "(Ljava/lang/String;)Ljava/lang/StringBuilder;", sig := { parameters := [(.object "java/lang/String")], returnType := some (.object "java/lang/StringBuilder") }, accessFlags := 1, code := some k16c1 }
def k16c2 : Code := { maxStack := 3, maxLocals := 3, code := jdk_67_method_16_code, exceptionTable := #[], attributes := #[] }
def k16m2 : Method := { name := "append", desc := "(J)Ljava/lang/StringBuilder;", sig := { parameters := [.long], returnType := some (.object "java/lang/StringBuilder") }, accessFlags := 1, code := some k16c2 }
def k16c3 : Code := { maxStack := 3, maxLocals := 1, code := jdk_67_method_42_code, exceptionTable := #[], attributes := #[] }
def k16m3 : Method := { name := "toString", desc := "()Ljava/lang/String;", sig := { parameters := [], returnType := some (.object "java/lang/String") }, accessFlags := 1, code := some k16c3 }
def k16c4 : Code := { maxStack := 1, maxLocals := 1, code := jdk_67_method_93_code, exceptionTable := #[], attributes := #[] }
def k16m4 : Method := { name := "length", desc := "()I", sig := { parameters := [], returnType := some .int }, accessFlags := 4161, code := some k16c4 }
/-- java/lang/StringBuilder -/
def k16 : Class := { plain "java/lang/StringBuilder" (some 15) with
  accessFlags := 49
  interfaces := #[14, 2, 3, 4]
  cf := some (fileOf pool16 24 #[] #[{ accessFlags := 1, nameIndex := 5, descriptorIndex := 145, attributes := #[] }, { accessFlags := 1, nameIndex := 27, descriptorIndex := 28, attributes := #[] }, { accessFlags := 1, nameIndex := 27, descriptorIndex := 281, attributes := #[] }, { accessFlags := 1, nameIndex := 399, descriptorIndex := 400, attributes := #[] }, { accessFlags := 4161, nameIndex := 345, descriptorIndex := 156, attributes := #[] }] 49 2 #[349, 351, 353, 355] #[{ accessFlags := 24, nameIndex := 357, descriptorIndex := 358, attributes := #[] }])
  fields := #[{ name := "serialVersionUID", type := .long, accessFlags := 24, slot := 0, constantValue := 0 }]
  methods := #[k16m0, k16m1, k16m2, k16m3, k16m4]
  instanceTypes := #[(.array .byte), .byte, .boolean, .int]
  staticTypes := #[.long]
  resolved := Array.replicate 422 none
  statics := none }

def pool17 : Array CpInfo := pool [(2, .class_ 4), (1, u "java/lang/Object"), (0, u "<init>"), (0, u "()V"), (1, .class_ 10), (1, u "java/lang/System"), (0, u "allowSecurityManager"), (0, u "I"), (16, u "cons"), (0, u "Ljava/io/Console;"), (77, .class_ 110), (1, u "java/lang/System$CallersHolder"), (43, u "initialErrStream"), (0, u "Ljava/io/PrintStream;"), (19, u "security"), (0, u "Ljava/lang/SecurityManager;"), (31, .class_ 209), (0, u "java/lang/System$1"), (7, u "props"), (0, u "Ljava/util/Properties;"), (2, u "lineSeparator"), (0, u "Ljava/lang/String;"), (96, .class_ 321), (1, u "java/lang/System$LoggerFinder"), (5, .class_ 328), (0, u "java/lang/System$Logger"), (67, u "err"), (2, u "out"), (91, u "notSupportedJnuEncoding"), (15, u "in"), (17, u "initialIn"), (0, u "Ljava/io/InputStream;"), (35, u "bootLayer"), (0, u "Ljava/lang/ModuleLayer;"), (99, .class_ 664), (0, u "java/lang/System$2"), (9, u "NEVER"), (2, u "MAYBE"), (49, u "arraycopy"), (0, u "(Ljava/lang/Object;ILjava/lang/Object;II)V"), (72, .class_ 802), (0, u "java/lang/System$Logger$Level")] 31

def k17m0 : Method := { name := "<init>", desc := "()V", sig := { parameters := [], returnType := none }, accessFlags := 2, code := none }
def k17m1 : Method := { name := "arraycopy", desc := "(Ljava/lang/Object;ILjava/lang/Object;II)V", sig := { parameters := [(.object "java/lang/Object"), .int, (.object "java/lang/Object"), .int, .int], returnType := none }, accessFlags := 265, code := none }
/-- java/lang/System -/
def k17 : Class := { plain "java/lang/System" (some 0) with
  accessFlags := 49
  interfaces := #[]
  cf := some (fileOf pool17 8 #[.nestMembers #[319, 327, 801, 108, 663, 208]] #[{ accessFlags := 2, nameIndex := 5, descriptorIndex := 6, attributes := #[] }, { accessFlags := 265, nameIndex := 727, descriptorIndex := 728, attributes := #[] }] 49 2 #[] #[{ accessFlags := 25, nameIndex := 507, descriptorIndex := 526, attributes := #[] }, { accessFlags := 25, nameIndex := 399, descriptorIndex := 155, attributes := #[] }, { accessFlags := 25, nameIndex := 396, descriptorIndex := 155, attributes := #[] }, { accessFlags := 10, nameIndex := 525, descriptorIndex := 526, attributes := #[] }, { accessFlags := 26, nameIndex := 674, descriptorIndex := 12, attributes := #[] }, { accessFlags := 26, nameIndex := 677, descriptorIndex := 12, attributes := #[] }, { accessFlags := 10, nameIndex := 11, descriptorIndex := 12, attributes := #[] }, { accessFlags := 74, nameIndex := 175, descriptorIndex := 176, attributes := #[] }, { accessFlags := 10, nameIndex := 491, descriptorIndex := 222, attributes := #[] }, { accessFlags := 74, nameIndex := 29, descriptorIndex := 30, attributes := #[] }, { accessFlags := 74, nameIndex := 154, descriptorIndex := 155, attributes := #[] }, { accessFlags := 10, nameIndex := 217, descriptorIndex := 218, attributes := #[] }, { accessFlags := 10, nameIndex := 221, descriptorIndex := 222, attributes := #[] }, { accessFlags := 8, nameIndex := 562, descriptorIndex := 563, attributes := #[] }])
  fields := #[{ name := "in", type := (.object "java/io/InputStream"), accessFlags := 25, slot := 0, constantValue := 0 }, { name := "out", type := (.object "java/io/PrintStream"), accessFlags := 25, slot := 1, constantValue := 0 }, { name := "err", type := (.object "java/io/PrintStream"), accessFlags := 25, slot := 2, constantValue := 0 }, { name := "initialIn", type := (.object "java/io/InputStream"), accessFlags := 10, slot := 3, constantValue := 0 }, { name := "NEVER", type := .int, accessFlags := 26, slot := 4, constantValue := 0 }, { name := "MAYBE", type := .int, accessFlags := 26, slot := 5, constantValue := 0 }, { name := "allowSecurityManager", type := .int, accessFlags := 10, slot := 6, constantValue := 0 }, { name := "security", type := (.object "java/lang/SecurityManager"), accessFlags := 74, slot := 7, constantValue := 0 }, { name := "notSupportedJnuEncoding", type := (.object "java/lang/String"), accessFlags := 10, slot := 8, constantValue := 0 }, { name := "cons", type := (.object "java/io/Console"), accessFlags := 74, slot := 9, constantValue := 0 }, { name := "initialErrStream", type := (.object "java/io/PrintStream"), accessFlags := 74, slot := 10, constantValue := 0 }, { name := "props", type := (.object "java/util/Properties"), accessFlags := 10, slot := 11, constantValue := 0 }, { name := "lineSeparator", type := (.object "java/lang/String"), accessFlags := 10, slot := 12, constantValue := 0 }, { name := "bootLayer", type := (.object "java/lang/ModuleLayer"), accessFlags := 8, slot := 13, constantValue := 0 }]
  methods := #[k17m0, k17m1]
  instanceTypes := #[]
  staticTypes := #[(.object "java/io/InputStream"), (.object "java/io/PrintStream"), (.object "java/io/PrintStream"), (.object "java/io/InputStream"), .int, .int, .int, (.object "java/lang/SecurityManager"), (.object "java/lang/String"), (.object "java/io/Console"), (.object "java/io/PrintStream"), (.object "java/util/Properties"), (.object "java/lang/String"), (.object "java/lang/ModuleLayer")]
  resolved := Array.replicate 834 none
  statics := none }

def pool18 : Array CpInfo := pool [(2, .class_ 4), (1, u "java/lang/Object"), (0, u "<init>"), (0, u "()V"), (1, .class_ 10), (1, u "java/lang/Number"), (2, .class_ 14), (0, u "java/io/Serializable"), (0, u "serialVersionUID"), (0, u "J")] 20

def k18m0 : Method := { name := "<init>", desc := "()V", sig := { parameters := [], returnType := none }, accessFlags := 1, code := none }
/-- java/lang/Number -/
def k18 : Class := { plain "java/lang/Number" (some 0) with
  accessFlags := 1057
  interfaces := #[2]
  cf := some (fileOf pool18 8 #[] #[{ accessFlags := 1, nameIndex := 5, descriptorIndex := 6, attributes := #[] }] 1057 2 #[13] #[{ accessFlags := 26, nameIndex := 15, descriptorIndex := 16, attributes := #[] }])
  fields := #[{ name := "serialVersionUID", type := .long, accessFlags := 26, slot := 0, constantValue := 0 }]
  methods := #[k18m0]
  instanceTypes := #[]
  staticTypes := #[.long]
  resolved := Array.replicate 37 none
  statics := none }

def pool19 : Array CpInfo := pool [(1, .class_ 2), (0, u "java/lang/Long"), (15, .class_ 20), (1, u "java/lang/Integer"), (32, .long 10), (47, u "(J)I"), (18, u "stringSize"), (2, u "getChars"), (0, u "(JI[B)I"), (4, .long 18446744071562067968), (3, .fieldref 18 134), (0, .nameAndType 135 136), (0, u "DigitOnes"), (0, u "[B"), (0, .fieldref 18 138), (0, .nameAndType 139 136), (0, u "DigitTens"), (0, .long 18446744073709551606), (94, .class_ 237), (1, u "java/lang/Long$LongCache"), (33, .class_ 272), (0, u "java/lang/Number"), (2, u "value"), (0, u "J"), (84, u "TYPE"), (0, u "Ljava/lang/Class;"), (0, .class_ 364), (0, u "java/lang/Comparable"), (0, .class_ 366), (0, u "java/lang/constant/Constable"), (0, .class_ 368), (0, u "java/lang/constant/ConstantDesc"), (0, u "MIN_VALUE"), (1, u "MAX_VALUE"), (4, u "SIZE"), (0, u "I"), (1, u "BYTES"), (1, u "serialVersionUID")] 142

def k19c0 : Code := { maxStack := 4, maxLocals := 11, code := jdk_35_method_14_code, exceptionTable := #[], attributes := #[] }
def k19m0 : Method := { name := "getChars", desc := "(JI[B)I", sig := { parameters := [.long, .int, (.array .byte)], returnType := some .int }, accessFlags := 8, code := some k19c0 }
def k19c1 : Code := { maxStack := 4, maxLocals := 6, code := jdk_35_method_15_code, exceptionTable := #[], attributes := #[] }
def k19m1 : Method := { name := "stringSize", desc := "(J)I", sig := { parameters := [.long], returnType := some .int }, accessFlags := 8, code := some k19c1 }
/-- java/lang/Long -/
def k19 : Class := { plain "java/lang/Long" (some 18) with
  accessFlags := 49
  interfaces := #[3, 5, 6]
  cf := some (fileOf pool19 1 #[.nestMembers #[235]] #[{ accessFlags := 8, nameIndex := 123, descriptorIndex := 124, attributes := #[] }, { accessFlags := 8, nameIndex := 120, descriptorIndex := 101, attributes := #[] }] 49 271 #[363, 365, 367] #[{ accessFlags := 25, nameIndex := 369, descriptorIndex := 276, attributes := #[] }, { accessFlags := 25, nameIndex := 371, descriptorIndex := 276, attributes := #[] }, { accessFlags := 25, nameIndex := 361, descriptorIndex := 362, attributes := #[] }, { accessFlags := 18, nameIndex := 275, descriptorIndex := 276, attributes := #[] }, { accessFlags := 25, nameIndex := 376, descriptorIndex := 377, attributes := #[] }, { accessFlags := 25, nameIndex := 379, descriptorIndex := 377, attributes := #[] }, { accessFlags := 26, nameIndex := 381, descriptorIndex := 276, attributes := #[] }])
  fields := #[{ name := "MIN_VALUE", type := .long, accessFlags := 25, slot := 0, constantValue := 0 }, { name := "MAX_VALUE", type := .long, accessFlags := 25, slot := 1, constantValue := 0 }, { name := "TYPE", type := (.object "java/lang/Class"), accessFlags := 25, slot := 2, constantValue := 0 }, { name := "value", type := .long, accessFlags := 18, slot := 0, constantValue := 0 }, { name := "SIZE", type := .int, accessFlags := 25, slot := 3, constantValue := 0 }, { name := "BYTES", type := .int, accessFlags := 25, slot := 4, constantValue := 0 }, { name := "serialVersionUID", type := .long, accessFlags := 26, slot := 5, constantValue := 0 }]
  methods := #[k19m0, k19m1]
  instanceTypes := #[.long]
  staticTypes := #[.long, .long, (.object "java/lang/Class"), .int, .int, .long]
  resolved := Array.replicate 524 none
  statics := none }

def pool20 : Array CpInfo := pool [(1, .class_ 2), (0, u "java/lang/Integer"), (16, u "digits"), (0, u "[C"), (64, u "DigitOnes"), (0, u "[B"), (2, u "DigitTens"), (99, .class_ 190), (0, u "java/lang/Integer$IntegerCache"), (3, u "I"), (8, .class_ 204), (0, u "java/lang/Number"), (2, u "value"), (94, u "TYPE"), (0, u "Ljava/lang/Class;"), (0, .class_ 305), (0, u "java/lang/Comparable"), (0, .class_ 307), (0, u "java/lang/constant/Constable"), (0, .class_ 309), (0, u "java/lang/constant/ConstantDesc"), (0, u "MIN_VALUE"), (1, u "MAX_VALUE"), (3, u "SIZE"), (1, u "BYTES"), (1, u "serialVersionUID"), (0, u "J")] 131

/-- java/lang/Integer -/
def k20 : Class := { plain "java/lang/Integer" (some 18) with
  accessFlags := 49
  interfaces := #[3, 5, 6]
  cf := some (fileOf pool20 1 #[.nestMembers #[189]] #[] 49 203 #[304, 306, 308] #[{ accessFlags := 25, nameIndex := 310, descriptorIndex := 194, attributes := #[] }, { accessFlags := 25, nameIndex := 312, descriptorIndex := 194, attributes := #[] }, { accessFlags := 25, nameIndex := 302, descriptorIndex := 303, attributes := #[] }, { accessFlags := 24, nameIndex := 19, descriptorIndex := 20, attributes := #[] }, { accessFlags := 24, nameIndex := 89, descriptorIndex := 86, attributes := #[] }, { accessFlags := 24, nameIndex := 85, descriptorIndex := 86, attributes := #[] }, { accessFlags := 18, nameIndex := 207, descriptorIndex := 194, attributes := #[] }, { accessFlags := 25, nameIndex := 316, descriptorIndex := 194, attributes := #[] }, { accessFlags := 25, nameIndex := 318, descriptorIndex := 194, attributes := #[] }, { accessFlags := 26, nameIndex := 320, descriptorIndex := 321, attributes := #[] }])
  fields := #[{ name := "MIN_VALUE", type := .int, accessFlags := 25, slot := 0, constantValue := 0 }, { name := "MAX_VALUE", type := .int, accessFlags := 25, slot := 1, constantValue := 0 }, { name := "TYPE", type := (.object "java/lang/Class"), accessFlags := 25, slot := 2, constantValue := 0 }, { name := "digits", type := (.array .char), accessFlags := 24, slot := 3, constantValue := 0 }, { name := "DigitTens", type := (.array .byte), accessFlags := 24, slot := 4, constantValue := 0 }, { name := "DigitOnes", type := (.array .byte), accessFlags := 24, slot := 5, constantValue := 0 }, { name := "value", type := .int, accessFlags := 18, slot := 0, constantValue := 0 }, { name := "SIZE", type := .int, accessFlags := 25, slot := 6, constantValue := 0 }, { name := "BYTES", type := .int, accessFlags := 25, slot := 7, constantValue := 0 }, { name := "serialVersionUID", type := .long, accessFlags := 26, slot := 8, constantValue := 0 }]
  methods := #[]
  instanceTypes := #[.int]
  staticTypes := #[.int, .int, (.object "java/lang/Class"), (.array .char), (.array .byte), (.array .byte), .int, .int, .long]
  resolved := Array.replicate 453 none
  statics := some 1 }

def pool21 : Array CpInfo := pool [(9, u "<init>"), (6, .class_ 18), (1, u "java/lang/Object"), (0, u "()V"), (1, .class_ 23), (1, u "jdk/internal/util/ArraysSupport"), (0, u "LOG2_ARRAY_LONG_INDEX_SCALE"), (0, u "I"), (2, u "U"), (0, u "Ljdk/internal/misc/Unsafe;"), (8, u "BIG_ENDIAN"), (0, u "Z"), (8, u "LOG2_BYTE_BIT_SIZE"), (4, u "LOG2_ARRAY_INT_INDEX_SCALE"), (54, u "JLA"), (0, u "Ljdk/internal/access/JavaLangAccess;"), (11, u "LOG2_ARRAY_BOOLEAN_INDEX_SCALE"), (9, u "LOG2_ARRAY_BYTE_INDEX_SCALE"), (5, u "LOG2_ARRAY_CHAR_INDEX_SCALE"), (5, u "LOG2_ARRAY_SHORT_INDEX_SCALE"), (18, u "LOG2_ARRAY_FLOAT_INDEX_SCALE"), (24, u "LOG2_ARRAY_DOUBLE_INDEX_SCALE"), (6, .methodref 195 196), (0, .class_ 197), (0, .nameAndType 198 199), (0, u "java/lang/Math"), (0, u "max"), (0, u "(II)I"), (0, .integer 2147483639), (76, u "T_BOOLEAN"), (2, u "T_CHAR"), (1, u "T_FLOAT"), (1, u "T_DOUBLE"), (1, u "T_BYTE"), (1, u "T_SHORT"), (1, u "T_INT"), (1, u "T_LONG"), (1, u "SOFT_MAX_ARRAY_LENGTH"), (56, u "newLength"), (0, u "(III)I")] 25

def k21m0 : Method := { name := "<init>", desc := "()V", sig := { parameters := [], returnType := none }, accessFlags := 2, code := none }
def k21c1 : Code := { maxStack := 3, maxLocals := 4, code := jdk_48_method_27_code, exceptionTable := #[], attributes := #[] }
def k21m1 : Method := { name := "newLength", desc := "(III)I", sig := { parameters := [.int, .int, .int], returnType := some .int }, accessFlags := 9, code := some k21c1 }
/-- jdk/internal/util/ArraysSupport -/
def k21 : Class := { plain "jdk/internal/util/ArraysSupport" (some 0) with
  accessFlags := 33
  interfaces := #[]
  cf := some (fileOf pool21 21 #[] #[{ accessFlags := 2, nameIndex := 9, descriptorIndex := 19, attributes := #[] }, { accessFlags := 9, nameIndex := 351, descriptorIndex := 352, attributes := #[] }] 33 16 #[] #[{ accessFlags := 24, nameIndex := 28, descriptorIndex := 29, attributes := #[] }, { accessFlags := 26, nameIndex := 38, descriptorIndex := 39, attributes := #[] }, { accessFlags := 25, nameIndex := 121, descriptorIndex := 25, attributes := #[] }, { accessFlags := 25, nameIndex := 131, descriptorIndex := 25, attributes := #[] }, { accessFlags := 25, nameIndex := 137, descriptorIndex := 25, attributes := #[] }, { accessFlags := 25, nameIndex := 143, descriptorIndex := 25, attributes := #[] }, { accessFlags := 25, nameIndex := 53, descriptorIndex := 25, attributes := #[] }, { accessFlags := 25, nameIndex := 24, descriptorIndex := 25, attributes := #[] }, { accessFlags := 25, nameIndex := 162, descriptorIndex := 25, attributes := #[] }, { accessFlags := 25, nameIndex := 187, descriptorIndex := 25, attributes := #[] }, { accessFlags := 26, nameIndex := 48, descriptorIndex := 25, attributes := #[] }, { accessFlags := 25, nameIndex := 277, descriptorIndex := 25, attributes := #[] }, { accessFlags := 25, nameIndex := 280, descriptorIndex := 25, attributes := #[] }, { accessFlags := 25, nameIndex := 282, descriptorIndex := 25, attributes := #[] }, { accessFlags := 25, nameIndex := 284, descriptorIndex := 25, attributes := #[] }, { accessFlags := 25, nameIndex := 286, descriptorIndex := 25, attributes := #[] }, { accessFlags := 25, nameIndex := 288, descriptorIndex := 25, attributes := #[] }, { accessFlags := 25, nameIndex := 290, descriptorIndex := 25, attributes := #[] }, { accessFlags := 25, nameIndex := 292, descriptorIndex := 25, attributes := #[] }, { accessFlags := 26, nameIndex := 108, descriptorIndex := 109, attributes := #[] }, { accessFlags := 25, nameIndex := 294, descriptorIndex := 25, attributes := #[] }])
  fields := #[{ name := "U", type := (.object "jdk/internal/misc/Unsafe"), accessFlags := 24, slot := 0, constantValue := 0 }, { name := "BIG_ENDIAN", type := .boolean, accessFlags := 26, slot := 1, constantValue := 0 }, { name := "LOG2_ARRAY_BOOLEAN_INDEX_SCALE", type := .int, accessFlags := 25, slot := 2, constantValue := 0 }, { name := "LOG2_ARRAY_BYTE_INDEX_SCALE", type := .int, accessFlags := 25, slot := 3, constantValue := 0 }, { name := "LOG2_ARRAY_CHAR_INDEX_SCALE", type := .int, accessFlags := 25, slot := 4, constantValue := 0 }, { name := "LOG2_ARRAY_SHORT_INDEX_SCALE", type := .int, accessFlags := 25, slot := 5, constantValue := 0 }, { name := "LOG2_ARRAY_INT_INDEX_SCALE", type := .int, accessFlags := 25, slot := 6, constantValue := 0 }, { name := "LOG2_ARRAY_LONG_INDEX_SCALE", type := .int, accessFlags := 25, slot := 7, constantValue := 0 }, { name := "LOG2_ARRAY_FLOAT_INDEX_SCALE", type := .int, accessFlags := 25, slot := 8, constantValue := 0 }, { name := "LOG2_ARRAY_DOUBLE_INDEX_SCALE", type := .int, accessFlags := 25, slot := 9, constantValue := 0 }, { name := "LOG2_BYTE_BIT_SIZE", type := .int, accessFlags := 26, slot := 10, constantValue := 0 }, { name := "T_BOOLEAN", type := .int, accessFlags := 25, slot := 11, constantValue := 0 }, { name := "T_CHAR", type := .int, accessFlags := 25, slot := 12, constantValue := 0 }, { name := "T_FLOAT", type := .int, accessFlags := 25, slot := 13, constantValue := 0 }, { name := "T_DOUBLE", type := .int, accessFlags := 25, slot := 14, constantValue := 0 }, { name := "T_BYTE", type := .int, accessFlags := 25, slot := 15, constantValue := 0 }, { name := "T_SHORT", type := .int, accessFlags := 25, slot := 16, constantValue := 0 }, { name := "T_INT", type := .int, accessFlags := 25, slot := 17, constantValue := 0 }, { name := "T_LONG", type := .int, accessFlags := 25, slot := 18, constantValue := 0 }, { name := "JLA", type := (.object "jdk/internal/access/JavaLangAccess"), accessFlags := 26, slot := 19, constantValue := 0 }, { name := "SOFT_MAX_ARRAY_LENGTH", type := .int, accessFlags := 25, slot := 20, constantValue := 0 }]
  methods := #[k21m0, k21m1]
  instanceTypes := #[]
  staticTypes := #[(.object "jdk/internal/misc/Unsafe"), .boolean, .int, .int, .int, .int, .int, .int, .int, .int, .int, .int, .int, .int, .int, .int, .int, .int, .int, (.object "jdk/internal/access/JavaLangAccess"), .int]
  resolved := Array.replicate 378 none
  statics := none }

def pool22 : Array CpInfo := pool [(1, .class_ 2), (0, u "java/lang/Math"), (1, .class_ 6), (1, u "java/lang/Object"), (0, u "<init>"), (0, u "()V"), (89, .class_ 100), (1, u "java/lang/Math$RandomNumberGeneratorHolder"), (71, u "negativeZeroFloatBits"), (0, u "J"), (2, u "negativeZeroDoubleBits"), (21, u "max"), (2, u "min"), (43, u "$assertionsDisabled"), (0, u "Z"), (88, u "(II)I"), (2, u "twoToTheDoubleScaleDown"), (0, u "D"), (4, u "twoToTheDoubleScaleUp"), (9, u "E"), (3, u "PI"), (2, u "TAU"), (2, u "DEGREES_TO_RADIANS"), (0, u "RADIANS_TO_DEGREES")] 94

def k22m0 : Method := { name := "<init>", desc := "()V", sig := { parameters := [], returnType := none }, accessFlags := 2, code := none }
def k22c1 : Code := { maxStack := 2, maxLocals := 2, code := jdk_29_method_65_code, exceptionTable := #[], attributes := #[] }
def k22m1 : Method := { name := "max", desc := "(II)I", sig := { parameters := [.int, .int], returnType := some .int }, accessFlags := 9, code := some k22c1 }
def k22c2 : Code := { maxStack := 2, maxLocals := 2, code := jdk_29_method_69_code, exceptionTable := #[], attributes := #[] }
def k22m2 : Method := { name := "min", desc := "(II)I", sig := { parameters := [.int, .int], returnType := some .int }, accessFlags := 9, code := some k22c2 }
/-- java/lang/Math -/
def k22 : Class := { plain "java/lang/Math" (some 0) with
  accessFlags := 49
  interfaces := #[]
  cf := some (fileOf pool22 1 #[.nestMembers #[98]] #[{ accessFlags := 2, nameIndex := 7, descriptorIndex := 8, attributes := #[] }, { accessFlags := 9, nameIndex := 198, descriptorIndex := 335, attributes := #[] }, { accessFlags := 9, nameIndex := 201, descriptorIndex := 335, attributes := #[] }] 49 4 #[] #[{ accessFlags := 25, nameIndex := 354, descriptorIndex := 339, attributes := #[] }, { accessFlags := 25, nameIndex := 358, descriptorIndex := 339, attributes := #[] }, { accessFlags := 25, nameIndex := 361, descriptorIndex := 339, attributes := #[] }, { accessFlags := 26, nameIndex := 364, descriptorIndex := 339, attributes := #[] }, { accessFlags := 26, nameIndex := 365, descriptorIndex := 339, attributes := #[] }, { accessFlags := 26, nameIndex := 172, descriptorIndex := 173, attributes := #[] }, { accessFlags := 26, nameIndex := 176, descriptorIndex := 173, attributes := #[] }, { accessFlags := 8, nameIndex := 344, descriptorIndex := 339, attributes := #[] }, { accessFlags := 8, nameIndex := 338, descriptorIndex := 339, attributes := #[] }, { accessFlags := 4120, nameIndex := 245, descriptorIndex := 246, attributes := #[] }])
  fields := #[{ name := "E", type := .double, accessFlags := 25, slot := 0, constantValue := 0 }, { name := "PI", type := .double, accessFlags := 25, slot := 1, constantValue := 0 }, { name := "TAU", type := .double, accessFlags := 25, slot := 2, constantValue := 0 }, { name := "DEGREES_TO_RADIANS", type := .double, accessFlags := 26, slot := 3, constantValue := 0 }, { name := "RADIANS_TO_DEGREES", type := .double, accessFlags := 26, slot := 4, constantValue := 0 }, { name := "negativeZeroFloatBits", type := .long, accessFlags := 26, slot := 5, constantValue := 0 }, { name := "negativeZeroDoubleBits", type := .long, accessFlags := 26, slot := 6, constantValue := 0 }, { name := "twoToTheDoubleScaleUp", type := .double, accessFlags := 8, slot := 7, constantValue := 0 }, { name := "twoToTheDoubleScaleDown", type := .double, accessFlags := 8, slot := 8, constantValue := 0 }, { name := "$assertionsDisabled", type := .boolean, accessFlags := 4120, slot := 9, constantValue := 0 }]
  methods := #[k22m0, k22m1, k22m2]
  instanceTypes := #[]
  staticTypes := #[.double, .double, .double, .double, .double, .long, .long, .double, .double, .boolean]
  resolved := Array.replicate 460 none
  statics := none }

def pool23 : Array CpInfo := pool [(2, .class_ 4), (1, u "java/lang/Object"), (0, u "<init>"), (0, u "()V"), (7, .class_ 16), (1, u "java/util/Arrays"), (57, .class_ 76), (1, u "java/util/Arrays$NaturalOrder"), (32, u "()Ljava/lang/Object;"), (3, .class_ 115), (1, u "java/util/Arrays$LegacyMergeSort"), (1, u "Z"), (10, .nameAndType 129 109), (0, u "clone"), (9, u "copyOfRange"), (10, .methodref 151 152), (0, .class_ 153), (0, .nameAndType 154 155), (0, u "java/lang/System"), (0, u "arraycopy"), (0, u "(Ljava/lang/Object;ILjava/lang/Object;II)V"), (146, u "copyOf"), (1, .methodref 305 306), (0, .class_ 307), (0, .nameAndType 308 309), (0, u "java/lang/Math"), (0, u "min"), (0, u "(II)I"), (0, .methodref 311 128), (0, .class_ 312), (0, u "[B"), (26, .methodref 14 340), (0, .nameAndType 341 342), (0, u "copyOfRangeByte"), (0, u "([BII)[B"), (0, .methodref 14 344), (0, .nameAndType 345 346), (0, u "checkLength"), (0, u "(II)V"), (28, .class_ 376), (0, u "java/util/Arrays$ArrayList"), (68, u "$assertionsDisabled"), (269, u "MIN_ARRAY_SORT_GRAN"), (0, u "I"), (2, u "INSERTIONSORT_THRESHOLD"), (149, u "([BI)[B"), (105, .class_ 976), (0, u "java/util/Arrays$ArrayItr")] 52

def k23m0 : Method := { name := "<init>", desc := "()V", sig := { parameters := [], returnType := none }, accessFlags := 2, code := none }
def k23c1 : Code := { maxStack := 6, maxLocals := 3, code := jdk_65_method_121_code, exceptionTable := #[], attributes := #[] }
def k23m1 : Method := { name := "copyOf", desc := "([BI)[B", sig := { parameters := [(.array .byte), .int], returnType := some (.array .byte) }, accessFlags := 9, code := some k23c1 }
def k23c2 : Code := { maxStack := 4, maxLocals := 2, code := jdk_65_method_131_code, exceptionTable := #[], attributes := #[] }
def k23m2 : Method := { name := "checkLength", desc := "(II)V", sig := { parameters := [.int, .int], returnType := none }, accessFlags := 10, code := some k23c2 }
def k23c3 : Code := { maxStack := 3, maxLocals := 3, code := jdk_65_method_132_code, exceptionTable := #[], attributes := #[] }
def k23m3 : Method := { name := "copyOfRange", desc := "([BII)[B", sig := { parameters := [(.array .byte), .int, .int], returnType := some (.array .byte) }, accessFlags := 9, code := some k23c3 }
def k23c4 : Code := { maxStack := 6, maxLocals := 5, code := jdk_65_method_133_code, exceptionTable := #[], attributes := #[] }
def k23m4 : Method := { name := "copyOfRangeByte", desc := "([BII)[B", sig := { parameters := [(.array .byte), .int, .int], returnType := some (.array .byte) }, accessFlags := 10, code := some k23c4 }
/-- java/util/Arrays -/
def k23 : Class := { plain "java/util/Arrays" (some 0) with
  accessFlags := 49
  interfaces := #[]
  cf := some (fileOf pool23 14 #[.nestMembers #[975, 375, 113, 74]] #[{ accessFlags := 2, nameIndex := 5, descriptorIndex := 6, attributes := #[] }, { accessFlags := 9, nameIndex := 302, descriptorIndex := 869, attributes := #[] }, { accessFlags := 10, nameIndex := 345, descriptorIndex := 346, attributes := #[] }, { accessFlags := 9, nameIndex := 139, descriptorIndex := 342, attributes := #[] }, { accessFlags := 10, nameIndex := 341, descriptorIndex := 342, attributes := #[] }] 49 2 #[] #[{ accessFlags := 26, nameIndex := 715, descriptorIndex := 716, attributes := #[] }, { accessFlags := 26, nameIndex := 719, descriptorIndex := 716, attributes := #[] }, { accessFlags := 4120, nameIndex := 445, descriptorIndex := 117, attributes := #[] }])
  fields := #[{ name := "MIN_ARRAY_SORT_GRAN", type := .int, accessFlags := 26, slot := 0, constantValue := 0 }, { name := "INSERTIONSORT_THRESHOLD", type := .int, accessFlags := 26, slot := 1, constantValue := 0 }, { name := "$assertionsDisabled", type := .boolean, accessFlags := 4120, slot := 2, constantValue := 0 }]
  methods := #[k23m0, k23m1, k23m2, k23m3, k23m4]
  instanceTypes := #[]
  staticTypes := #[.int, .int, .boolean]
  resolved := Array.replicate 1029 none
  statics := none }

def pool24 : Array CpInfo := pool [(1, .class_ 2), (0, u "java/lang/Cloneable"), (0, .class_ 4), (0, u "java/lang/Object")] 2

/-- java/lang/Cloneable -/
def k24 : Class := { plain "java/lang/Cloneable" (some 0) with
  accessFlags := 1537
  interfaces := #[]
  cf := some (fileOf pool24 1 #[] #[] 1537 3 #[] #[])
  fields := #[]
  methods := #[]
  instanceTypes := #[]
  staticTypes := #[]
  resolved := Array.replicate 7 none
  statics := none }

def pool25 : Array CpInfo := pool [(2, .class_ 4), (1, u "java/lang/Object"), (0, u "<init>"), (0, u "()V"), (0, .class_ 8), (0, u "com/example/hemotide/hemotide/link/E1381"), (82, u "frameNumberAfter"), (0, u "(I)I"), (5, u "STX"), (1, u "ETX"), (1, u "ETB"), (1, u "EOT"), (1, u "ENQ"), (1, u "ACK"), (1, u "NAK"), (22, u "FRAME_TIMEOUT"), (0, u "Ljava/time/Duration;"), (4, u "REPLY_TIMEOUT"), (4, u "CONTENTION_WAIT"), (2, u "ANALYZER_CONTENTION_WAIT"), (4, u "BUSY_DELAY"), (0, u "I"), (6, u "LF"), (1, u "CR"), (3, u "MAX_FRAME_LENGTH"), (1, u "MAX_SENT_TEXT"), (1, u "HEX_DIGITS"), (0, u "Ljava/lang/String;"), (0, u "FIRST_FRAME_NUMBER"), (1, u "MAX_TRANSMISSIONS"), (0, u "MAX_CONTENTION_REPLIES"), (0, u "MAX_BUSY_REPLIES")] 12

def k25m0 : Method := { name := "<init>", desc := "()V", sig := { parameters := [], returnType := none }, accessFlags := 2, code := none }
def k25c1 : Code := { maxStack := 2, maxLocals := 1, code := prog_21_method_2_code, exceptionTable := #[], attributes := #[] }
def k25m1 : Method := { name := "frameNumberAfter", desc := "(I)I", sig := { parameters := [.int], returnType := some .int }, accessFlags := 9, code := some k25c1 }
/-- com/example/hemotide/hemotide/link/E1381 -/
def k25 : Class := { plain "com/example/hemotide/hemotide/link/E1381" (some 0) with
  accessFlags := 49
  interfaces := #[]
  cf := some (fileOf pool25 7 #[] #[{ accessFlags := 2, nameIndex := 5, descriptorIndex := 6, attributes := #[] }, { accessFlags := 9, nameIndex := 91, descriptorIndex := 92, attributes := #[] }] 49 2 #[] #[{ accessFlags := 25, nameIndex := 98, descriptorIndex := 153, attributes := #[] }, { accessFlags := 25, nameIndex := 100, descriptorIndex := 153, attributes := #[] }, { accessFlags := 25, nameIndex := 104, descriptorIndex := 153, attributes := #[] }, { accessFlags := 25, nameIndex := 106, descriptorIndex := 153, attributes := #[] }, { accessFlags := 25, nameIndex := 108, descriptorIndex := 153, attributes := #[] }, { accessFlags := 24, nameIndex := 160, descriptorIndex := 153, attributes := #[] }, { accessFlags := 24, nameIndex := 162, descriptorIndex := 153, attributes := #[] }, { accessFlags := 25, nameIndex := 110, descriptorIndex := 153, attributes := #[] }, { accessFlags := 25, nameIndex := 102, descriptorIndex := 153, attributes := #[] }, { accessFlags := 25, nameIndex := 166, descriptorIndex := 153, attributes := #[] }, { accessFlags := 25, nameIndex := 168, descriptorIndex := 153, attributes := #[] }, { accessFlags := 26, nameIndex := 170, descriptorIndex := 171, attributes := #[] }, { accessFlags := 25, nameIndex := 172, descriptorIndex := 153, attributes := #[] }, { accessFlags := 24, nameIndex := 174, descriptorIndex := 153, attributes := #[] }, { accessFlags := 25, nameIndex := 133, descriptorIndex := 134, attributes := #[] }, { accessFlags := 25, nameIndex := 139, descriptorIndex := 134, attributes := #[] }, { accessFlags := 25, nameIndex := 144, descriptorIndex := 134, attributes := #[] }, { accessFlags := 25, nameIndex := 147, descriptorIndex := 134, attributes := #[] }, { accessFlags := 24, nameIndex := 175, descriptorIndex := 153, attributes := #[] }, { accessFlags := 25, nameIndex := 152, descriptorIndex := 134, attributes := #[] }, { accessFlags := 24, nameIndex := 176, descriptorIndex := 153, attributes := #[] }])
  fields := #[{ name := "STX", type := .int, accessFlags := 25, slot := 0, constantValue := 0 }, { name := "ETX", type := .int, accessFlags := 25, slot := 1, constantValue := 0 }, { name := "EOT", type := .int, accessFlags := 25, slot := 2, constantValue := 0 }, { name := "ENQ", type := .int, accessFlags := 25, slot := 3, constantValue := 0 }, { name := "ACK", type := .int, accessFlags := 25, slot := 4, constantValue := 0 }, { name := "LF", type := .int, accessFlags := 24, slot := 5, constantValue := 0 }, { name := "CR", type := .int, accessFlags := 24, slot := 6, constantValue := 0 }, { name := "NAK", type := .int, accessFlags := 25, slot := 7, constantValue := 0 }, { name := "ETB", type := .int, accessFlags := 25, slot := 8, constantValue := 0 }, { name := "MAX_FRAME_LENGTH", type := .int, accessFlags := 25, slot := 9, constantValue := 0 }, { name := "MAX_SENT_TEXT", type := .int, accessFlags := 25, slot := 10, constantValue := 0 }, { name := "HEX_DIGITS", type := (.object "java/lang/String"), accessFlags := 26, slot := 11, constantValue := 0 }, { name := "FIRST_FRAME_NUMBER", type := .int, accessFlags := 25, slot := 12, constantValue := 0 }, { name := "MAX_TRANSMISSIONS", type := .int, accessFlags := 24, slot := 13, constantValue := 0 }, { name := "FRAME_TIMEOUT", type := (.object "java/time/Duration"), accessFlags := 25, slot := 14, constantValue := 0 }, { name := "REPLY_TIMEOUT", type := (.object "java/time/Duration"), accessFlags := 25, slot := 15, constantValue := 0 }, { name := "CONTENTION_WAIT", type := (.object "java/time/Duration"), accessFlags := 25, slot := 16, constantValue := 0 }, { name := "ANALYZER_CONTENTION_WAIT", type := (.object "java/time/Duration"), accessFlags := 25, slot := 17, constantValue := 0 }, { name := "MAX_CONTENTION_REPLIES", type := .int, accessFlags := 24, slot := 18, constantValue := 0 }, { name := "BUSY_DELAY", type := (.object "java/time/Duration"), accessFlags := 25, slot := 19, constantValue := 0 }, { name := "MAX_BUSY_REPLIES", type := .int, accessFlags := 24, slot := 20, constantValue := 0 }]
  methods := #[k25m0, k25m1]
  instanceTypes := #[]
  staticTypes := #[.int, .int, .int, .int, .int, .int, .int, .int, .int, .int, .int, (.object "java/lang/String"), .int, .int, (.object "java/time/Duration"), (.object "java/time/Duration"), (.object "java/time/Duration"), (.object "java/time/Duration"), .int, (.object "java/time/Duration"), .int]
  resolved := Array.replicate 189 none
  statics := none }

def pool26 : Array CpInfo := pool [(2, .class_ 4), (1, u "java/lang/Object"), (0, u "<init>"), (0, u "()V"), (17, .class_ 26), (1, u "jdk/internal/util/Preconditions"), (28, .class_ 56), (0, u "jdk/internal/util/Preconditions$4"), (57, .class_ 115), (0, u "jdk/internal/util/Preconditions$1"), (7, u "SIOOBE_FORMATTER"), (0, u "Ljava/util/function/BiFunction;"), (0, .class_ 126), (0, u "jdk/internal/util/Preconditions$2"), (3, u "AIOOBE_FORMATTER"), (0, .class_ 132), (0, u "jdk/internal/util/Preconditions$3"), (3, u "IOOBE_FORMATTER")] 57

def k26m0 : Method := { name := "<init>", desc := "()V", sig := { parameters := [], returnType := none }, accessFlags := 1, code := none }
/-- jdk/internal/util/Preconditions -/
def k26 : Class := { plain "jdk/internal/util/Preconditions" (some 0) with
  accessFlags := 33
  interfaces := #[]
  cf := some (fileOf pool26 24 #[.nestMembers #[55, 131, 125, 114]] #[{ accessFlags := 1, nameIndex := 5, descriptorIndex := 6, attributes := #[] }] 33 2 #[] #[{ accessFlags := 25, nameIndex := 123, descriptorIndex := 124, attributes := #[] }, { accessFlags := 25, nameIndex := 130, descriptorIndex := 124, attributes := #[] }, { accessFlags := 25, nameIndex := 136, descriptorIndex := 124, attributes := #[] }])
  fields := #[{ name := "SIOOBE_FORMATTER", type := (.object "java/util/function/BiFunction"), accessFlags := 25, slot := 0, constantValue := 0 }, { name := "AIOOBE_FORMATTER", type := (.object "java/util/function/BiFunction"), accessFlags := 25, slot := 1, constantValue := 0 }, { name := "IOOBE_FORMATTER", type := (.object "java/util/function/BiFunction"), accessFlags := 25, slot := 2, constantValue := 0 }]
  methods := #[k26m0]
  instanceTypes := #[]
  staticTypes := #[(.object "java/util/function/BiFunction"), (.object "java/util/function/BiFunction"), (.object "java/util/function/BiFunction")]
  resolved := Array.replicate 194 none
  statics := some 2 }

/-- the primitive byte -/
def k27 : Class := { plain "byte" none with kind := .primitive 'B', accessFlags := 0x411 }
/-- [B -/
def k28 : Class := { plain "[B" (some 0) with kind := .array 27 .byte, interfaces := #[24, 2], accessFlags := 1041 }

def heap : Heap := #[{ cls := 7, slots := #[.long 0, .int 1, .null, .int 0, .null, .int 0, .int 0], vm := .statics 7 },
  { cls := 20, slots := #[.int 0, .int 0, .null, .null, .ref 4, .ref 3, .int 0, .int 0, .long 0], vm := .statics 20 },
  { cls := 26, slots := #[.null, .null, .null], vm := .statics 26 },
  { cls := 28, slots := #[.int 48, .int 49, .int 50, .int 51, .int 52, .int 53, .int 54, .int 55, .int 56, .int 57, .int 48, .int 49, .int 50, .int 51, .int 52, .int 53, .int 54, .int 55, .int 56, .int 57, .int 48, .int 49, .int 50, .int 51, .int 52, .int 53, .int 54, .int 55, .int 56, .int 57, .int 48, .int 49, .int 50, .int 51, .int 52, .int 53, .int 54, .int 55, .int 56, .int 57, .int 48, .int 49, .int 50, .int 51, .int 52, .int 53, .int 54, .int 55, .int 56, .int 57, .int 48, .int 49, .int 50, .int 51, .int 52, .int 53, .int 54, .int 55, .int 56, .int 57, .int 48, .int 49, .int 50, .int 51, .int 52, .int 53, .int 54, .int 55, .int 56, .int 57, .int 48, .int 49, .int 50, .int 51, .int 52, .int 53, .int 54, .int 55, .int 56, .int 57, .int 48, .int 49, .int 50, .int 51, .int 52, .int 53, .int 54, .int 55, .int 56, .int 57, .int 48, .int 49, .int 50, .int 51, .int 52, .int 53, .int 54, .int 55, .int 56, .int 57], vm := .none },
  { cls := 28, slots := #[.int 48, .int 48, .int 48, .int 48, .int 48, .int 48, .int 48, .int 48, .int 48, .int 48, .int 49, .int 49, .int 49, .int 49, .int 49, .int 49, .int 49, .int 49, .int 49, .int 49, .int 50, .int 50, .int 50, .int 50, .int 50, .int 50, .int 50, .int 50, .int 50, .int 50, .int 51, .int 51, .int 51, .int 51, .int 51, .int 51, .int 51, .int 51, .int 51, .int 51, .int 52, .int 52, .int 52, .int 52, .int 52, .int 52, .int 52, .int 52, .int 52, .int 52, .int 53, .int 53, .int 53, .int 53, .int 53, .int 53, .int 53, .int 53, .int 53, .int 53, .int 54, .int 54, .int 54, .int 54, .int 54, .int 54, .int 54, .int 54, .int 54, .int 54, .int 55, .int 55, .int 55, .int 55, .int 55, .int 55, .int 55, .int 55, .int 55, .int 55, .int 56, .int 56, .int 56, .int 56, .int 56, .int 56, .int 56, .int 56, .int 56, .int 56, .int 57, .int 57, .int 57, .int 57, .int 57, .int 57, .int 57, .int 57, .int 57, .int 57], vm := .none }]
def classes : Array Class := #[k0, k1, k2, k3, k4, k5, k6, k7, k8, k9, k10, k11, k12, k13, k14, k15, k16, k17, k18, k19, k20, k21, k22, k23, k24, k25, k26, k27, k28]
def interned : List (Array UInt16 × Addr) := []
def slotsUsed : Nat := 219
def theMethod : MethodId := ⟨1, 1⟩
def args0 : Array Value := #[.int 0, .int 1, .int 2, .int 3]
def aboutOver (below : List Frame) : State where
  vm := { classes := classes, interned := interned.toArray }
  heap := heap
  slotsUsed := slotsUsed
  threads := #[{ frames := .invoking theMethod args0 :: below }]
def below0 : List Frame := [.native { method := ⟨0, 0⟩, args := #[] }]
def about1 : State := aboutOver below0
def p0 : Program := .bare "" "" ""
def e0 : Env := launch0.env 0 0 0
theorem w_frames : about1.frames = Frame.invoking theMethod args0 :: below0 := rfl
set_option maxRecDepth 65536 in
theorem w_args : argsFit about1.vm theMethod args0 = true := by decide +kernel
set_option maxRecDepth 65536 in
theorem w_heap : heapFits about1 = true := by decide +kernel
set_option maxRecDepth 65536 in
theorem w_runnable : about1.curStatus? = some .runnable := by decide +kernel
set_option maxRecDepth 65536 in
theorem w_alone : about1.alone = true := by decide +kernel
set_option maxRecDepth 65536 in
theorem w_named : about1.methodNamed? x = some theMethod := by decide +kernel
set_option maxRecDepth 65536 in
theorem w_hears : about1.hears theMethod below0 = true := by decide +kernel
set_option maxRecDepth 65536 in
theorem w_ripe : about1.ripe theMethod args0 below0 = true := by decide +kernel
theorem w_running : about1.status = .running := rfl
set_option maxRecDepth 65536 in
theorem w_room : about1.hasRoom e0.platform room_1 = true :=
  launch0.hasRoom_least _ room_1 (by decide +kernel) (by decide +kernel) (by decide +kernel) (by decide +kernel) (by decide +kernel) (by decide +kernel)
theorem allAtoms_all (ts : List Jvm.Cond) (a : Array Jvm.Value) (st : Jvm.State) : (allAtoms ts).before a st = ts.all (fun c => c.before a st) := by
  induction ts with
  | nil => rfl
  | cons c t ih =>
    show (Jvm.Cond.and c (allAtoms t)).before a st = _
    rw [Jvm.Cond.before_and, ih, List.all_cons]
def words1 : List Jvm.Cond := Jvm.Cond.code x code maxLocals ret :: tables_1
/-- a 'code' word, met by the world's own term for the bytes: nothing is compared byte by byte -/
theorem code_word {y : MethodName} {bytes : ByteArray} {mx : Nat} {rt : Option FieldType} {a : Array Value} {s : State} {m : MethodId} {meth : Method} {c : Code} (h1 : s.methodNamed? y = some m) (h2 : s.vm.method? m = some meth) (h3 : meth.code = some c) (h4 : c.code = bytes)
    (h5 : (c.maxLocals == mx && c.exceptionTable.isEmpty && decide (c.maxStack ≤ mostOperands) && decide (meth.sig.returnType = rt) && !meth.locks && decide (parseMethodDescriptor y.desc = some meth.sig)) = true) : (Jvm.Cond.code y bytes mx rt).before a s = true := by
  simp only [Bool.and_eq_true, beq_iff_eq, Bool.not_eq_true', decide_eq_true_eq] at h5
  obtain ⟨⟨⟨⟨⟨g1, g2⟩, g3⟩, g4⟩, g5⟩, g6⟩ := h5
  simp [Cond.before, Cond.holds, Cond.value, h1, h2, h3, h4, g1, g2, g3, g4, g5, g6]
def isCode : Jvm.Cond → Bool
  | .code _ _ _ _ => true
  | _ => false
theorem all_split {L : List Jvm.Cond} {P : Jvm.Cond → Bool} (h1 : L.all (fun c => isCode c || P c) = true) (h2 : ∀ c ∈ L.filter isCode, P c = true) : L.all P = true := by
  refine List.all_eq_true.mpr fun c hc => ?_
  have h := List.all_eq_true.mp h1 c hc
  rcases Bool.eq_false_or_eq_true (isCode c) with hi | hi
  · exact h2 c (List.mem_filter.mpr ⟨hc, hi⟩)
  · simpa [hi] using h
set_option maxRecDepth 65536 in
theorem w_c0 : (Jvm.Cond.code x code maxLocals ret).before args0 about1 = true := code_word (m := ⟨1, 1⟩) (meth := k1m1) (c := k1c1) (by decide +kernel) rfl rfl rfl (by decide +kernel)
set_option maxRecDepth 65536 in
theorem w_c1 : (Jvm.Cond.code ({ cls := "java/lang/String", name := "valueOf", desc := "(C)Ljava/lang/String;" } : Jvm.MethodName) jdk_42_method_139_code (1 : Nat) (Option.some (Jvm.ClassFile.FieldType.object "java/lang/String"))).before args0 about1 = true := code_word (m := ⟨7, 4⟩) (meth := k7m4) (c := k7c4) (by decide +kernel) rfl rfl rfl (by decide +kernel)
set_option maxRecDepth 65536 in
theorem w_c2 : (Jvm.Cond.code ({ cls := "java/lang/StringLatin1", name := "canEncode", desc := "(C)Z" } : Jvm.MethodName) jdk_43_method_3_code (1 : Nat) (Option.some Jvm.ClassFile.FieldType.boolean)).before args0 about1 = true := code_word (m := ⟨8, 1⟩) (meth := k8m1) (c := k8c1) (by decide +kernel) rfl rfl rfl (by decide +kernel)
set_option maxRecDepth 65536 in
theorem w_c3 : (Jvm.Cond.code ({ cls := "java/lang/StringLatin1", name := "toBytes", desc := "(C)[B" } : Jvm.MethodName) jdk_43_method_46_code (1 : Nat) (Option.some (Jvm.ClassFile.FieldType.array Jvm.ClassFile.FieldType.byte))).before args0 about1 = true := code_word (m := ⟨8, 3⟩) (meth := k8m3) (c := k8c3) (by decide +kernel) rfl rfl rfl (by decide +kernel)
set_option maxRecDepth 65536 in
theorem w_c4 : (Jvm.Cond.code ({ cls := "java/lang/String", name := "<init>", desc := "([BB)V" } : Jvm.MethodName) jdk_42_method_151_code (3 : Nat) (Option.none : Option Jvm.ClassFile.FieldType)).before args0 about1 = true := code_word (m := ⟨7, 7⟩) (meth := k7m7) (c := k7c7) (by decide +kernel) rfl rfl rfl (by decide +kernel)
set_option maxRecDepth 65536 in
theorem w_c5 : (Jvm.Cond.code ({ cls := "java/lang/Object", name := "<init>", desc := "()V" } : Jvm.MethodName) object_method_1_code (1 : Nat) (Option.none : Option Jvm.ClassFile.FieldType)).before args0 about1 = true := code_word (m := ⟨0, 0⟩) (meth := k0m0) (c := k0c0) (by decide +kernel) rfl rfl rfl (by decide +kernel)
set_option maxRecDepth 65536 in
theorem w_c6 : (Jvm.Cond.code ({ cls := "com/example/hemotide/hemotide/link/Frame", name := "<init>", desc := "(JJJILjava/lang/String;ZZLjava/lang/String;)V" } : Jvm.MethodName) prog_22_method_1_code (12 : Nat) (Option.none : Option Jvm.ClassFile.FieldType)).before args0 about1 = true := code_word (m := ⟨11, 0⟩) (meth := k11m0) (c := k11c0) (by decide +kernel) rfl rfl rfl (by decide +kernel)
set_option maxRecDepth 65536 in
theorem w_c7 : (Jvm.Cond.code ({ cls := "java/lang/Record", name := "<init>", desc := "()V" } : Jvm.MethodName) jdk_30_method_1_code (1 : Nat) (Option.none : Option Jvm.ClassFile.FieldType)).before args0 about1 = true := code_word (m := ⟨9, 0⟩) (meth := k9m0) (c := k9c0) (by decide +kernel) rfl rfl rfl (by decide +kernel)
set_option maxRecDepth 65536 in
theorem w_c8 : (Jvm.Cond.code ({ cls := "com/example/hemotide/hemotide/link/Transfer", name := "<init>", desc := "()V" } : Jvm.MethodName) prog_35_method_1_code (1 : Nat) (Option.none : Option Jvm.ClassFile.FieldType)).before args0 about1 = true := code_word (m := ⟨12, 0⟩) (meth := k12m0) (c := k12c0) (by decide +kernel) rfl rfl rfl (by decide +kernel)
set_option maxRecDepth 65536 in
theorem w_c9 : (Jvm.Cond.code ({ cls := "com/example/hemotide/hemotide/link/MessageAssembler", name := "<init>", desc := "()V" } : Jvm.MethodName) prog_33_method_1_code (1 : Nat) (Option.none : Option Jvm.ClassFile.FieldType)).before args0 about1 = true := code_word (m := ⟨13, 0⟩) (meth := k13m0) (c := k13c0) (by decide +kernel) rfl rfl rfl (by decide +kernel)
set_option maxRecDepth 65536 in
theorem w_c10 : (Jvm.Cond.code ({ cls := "java/lang/StringBuilder", name := "<init>", desc := "()V" } : Jvm.MethodName) jdk_67_method_1_code (1 : Nat) (Option.none : Option Jvm.ClassFile.FieldType)).before args0 about1 = true := code_word (m := ⟨16, 0⟩) (meth := k16m0) (c := k16c0) (by decide +kernel) rfl rfl rfl (by decide +kernel)
set_option maxRecDepth 65536 in
theorem w_c11 : (Jvm.Cond.code ({ cls := "java/lang/AbstractStringBuilder", name := "<init>", desc := "(I)V" } : Jvm.MethodName) jdk_68_method_2_code (2 : Nat) (Option.none : Option Jvm.ClassFile.FieldType)).before args0 about1 = true := code_word (m := ⟨15, 1⟩) (meth := k15m1) (c := k15c1) (by decide +kernel) rfl rfl rfl (by decide +kernel)
set_option maxRecDepth 65536 in
theorem w_c12 : (Jvm.Cond.code ({ cls := "com/example/hemotide/hemotide/link/Transfer", name := "refuse", desc := "(Lcom/example/hemotide/hemotide/link/Frame;)Z" } : Jvm.MethodName) prog_35_method_4_code (2 : Nat) (Option.some Jvm.ClassFile.FieldType.boolean)).before args0 about1 = true := code_word (m := ⟨12, 3⟩) (meth := k12m3) (c := k12c3) (by decide +kernel) rfl rfl rfl (by decide +kernel)
set_option maxRecDepth 65536 in
theorem w_c13 : (Jvm.Cond.code ({ cls := "com/example/hemotide/hemotide/link/Frame", name := "defect", desc := "()Ljava/lang/String;" } : Jvm.MethodName) prog_22_method_13_code (1 : Nat) (Option.some (Jvm.ClassFile.FieldType.object "java/lang/String"))).before args0 about1 = true := code_word (m := ⟨11, 5⟩) (meth := k11m5) (c := k11c5) (by decide +kernel) rfl rfl rfl (by decide +kernel)
set_option maxRecDepth 65536 in
theorem w_c14 : (Jvm.Cond.code ({ cls := "java/lang/String", name := "equals", desc := "(Ljava/lang/Object;)Z" } : Jvm.MethodName) jdk_42_method_66_code (3 : Nat) (Option.some Jvm.ClassFile.FieldType.boolean)).before args0 about1 = true := code_word (m := ⟨7, 3⟩) (meth := k7m3) (c := k7c3) (by decide +kernel) rfl rfl rfl (by decide +kernel)
set_option maxRecDepth 65536 in
theorem w_c15 : (Jvm.Cond.code ({ cls := "java/lang/StringLatin1", name := "equals", desc := "([B[B)Z" } : Jvm.MethodName) jdk_43_method_13_code (3 : Nat) (Option.some Jvm.ClassFile.FieldType.boolean)).before args0 about1 = true := code_word (m := ⟨8, 2⟩) (meth := k8m2) (c := k8c2) (by decide +kernel) rfl rfl rfl (by decide +kernel)
set_option maxRecDepth 65536 in
theorem w_c16 : (Jvm.Cond.code ({ cls := "com/example/hemotide/hemotide/link/Transfer", name := "refusal", desc := "(Lcom/example/hemotide/hemotide/link/Frame;)Ljava/lang/String;" } : Jvm.MethodName) prog_35_method_2_code (2 : Nat) (Option.some (Jvm.ClassFile.FieldType.object "java/lang/String"))).before args0 about1 = true := code_word (m := ⟨12, 1⟩) (meth := k12m1) (c := k12c1) (by decide +kernel) rfl rfl rfl (by decide +kernel)
set_option maxRecDepth 65536 in
theorem w_c17 : (Jvm.Cond.code ({ cls := "com/example/hemotide/hemotide/link/Frame", name := "number", desc := "()I" } : Jvm.MethodName) prog_22_method_9_code (1 : Nat) (Option.some Jvm.ClassFile.FieldType.int)).before args0 about1 = true := code_word (m := ⟨11, 2⟩) (meth := k11m2) (c := k11c2) (by decide +kernel) rfl rfl rfl (by decide +kernel)
set_option maxRecDepth 65536 in
theorem w_c18 : (Jvm.Cond.code ({ cls := "com/example/hemotide/hemotide/link/Frame", name := "text", desc := "()Ljava/lang/String;" } : Jvm.MethodName) prog_22_method_10_code (1 : Nat) (Option.some (Jvm.ClassFile.FieldType.object "java/lang/String"))).before args0 about1 = true := code_word (m := ⟨11, 3⟩) (meth := k11m3) (c := k11c3) (by decide +kernel) rfl rfl rfl (by decide +kernel)
set_option maxRecDepth 65536 in
theorem w_c19 : (Jvm.Cond.code ({ cls := "java/lang/StringBuilder", name := "append", desc := "(Ljava/lang/String;)Ljava/lang/StringBuilder;" } : Jvm.MethodName) jdk_67_method_7_code (2 : Nat) (Option.some (Jvm.ClassFile.FieldType.object "java/lang/StringBuilder"))).before args0 about1 = true := code_word (m := ⟨16, 1⟩) (meth := k16m1) (c := k16c1) (by decide +kernel) rfl rfl rfl (by decide +kernel)
set_option maxRecDepth 65536 in
theorem w_c20 : (Jvm.Cond.code ({ cls := "java/lang/AbstractStringBuilder", name := "append", desc := "(Ljava/lang/String;)Ljava/lang/AbstractStringBuilder;" } : Jvm.MethodName) jdk_68_method_22_code (3 : Nat) (Option.some (Jvm.ClassFile.FieldType.object "java/lang/AbstractStringBuilder"))).before args0 about1 = true := code_word (m := ⟨15, 5⟩) (meth := k15m5) (c := k15c5) (by decide +kernel) rfl rfl rfl (by decide +kernel)
set_option maxRecDepth 65536 in
theorem w_c21 : (Jvm.Cond.code ({ cls := "java/lang/String", name := "length", desc := "()I" } : Jvm.MethodName) jdk_42_method_54_code (1 : Nat) (Option.some Jvm.ClassFile.FieldType.int)).before args0 about1 = true := code_word (m := ⟨7, 2⟩) (meth := k7m2) (c := k7c2) (by decide +kernel) rfl rfl rfl (by decide +kernel)
set_option maxRecDepth 65536 in
theorem w_c22 : (Jvm.Cond.code ({ cls := "java/lang/String", name := "coder", desc := "()B" } : Jvm.MethodName) jdk_42_method_152_code (1 : Nat) (Option.some Jvm.ClassFile.FieldType.byte)).before args0 about1 = true := code_word (m := ⟨7, 8⟩) (meth := k7m8) (c := k7c8) (by decide +kernel) rfl rfl rfl (by decide +kernel)
set_option maxRecDepth 65536 in
theorem w_c23 : (Jvm.Cond.code ({ cls := "java/lang/AbstractStringBuilder", name := "ensureCapacityInternal", desc := "(I)V" } : Jvm.MethodName) jdk_68_method_9_code (3 : Nat) (Option.none : Option Jvm.ClassFile.FieldType)).before args0 about1 = true := code_word (m := ⟨15, 3⟩) (meth := k15m3) (c := k15c3) (by decide +kernel) rfl rfl rfl (by decide +kernel)
set_option maxRecDepth 65536 in
theorem w_c24 : (Jvm.Cond.code ({ cls := "java/lang/AbstractStringBuilder", name := "putStringAt", desc := "(ILjava/lang/String;)V" } : Jvm.MethodName) jdk_68_method_73_code (3 : Nat) (Option.none : Option Jvm.ClassFile.FieldType)).before args0 about1 = true := code_word (m := ⟨15, 10⟩) (meth := k15m10) (c := k15c10) (by decide +kernel) rfl rfl rfl (by decide +kernel)
set_option maxRecDepth 65536 in
theorem w_c25 : (Jvm.Cond.code ({ cls := "java/lang/AbstractStringBuilder", name := "inflateIfNeededFor", desc := "(Ljava/lang/String;)V" } : Jvm.MethodName) jdk_68_method_71_code (2 : Nat) (Option.none : Option Jvm.ClassFile.FieldType)).before args0 about1 = true := code_word (m := ⟨15, 9⟩) (meth := k15m9) (c := k15c9) (by decide +kernel) rfl rfl rfl (by decide +kernel)
set_option maxRecDepth 65536 in
theorem w_c26 : (Jvm.Cond.code ({ cls := "java/lang/String", name := "getBytes", desc := "([BIB)V" } : Jvm.MethodName) jdk_42_method_147_code (4 : Nat) (Option.none : Option Jvm.ClassFile.FieldType)).before args0 about1 = true := code_word (m := ⟨7, 5⟩) (meth := k7m5) (c := k7c5) (by decide +kernel) rfl rfl rfl (by decide +kernel)
set_option maxRecDepth 65536 in
theorem w_c27 : (Jvm.Cond.code ({ cls := "com/example/hemotide/hemotide/link/Frame", name := "describe", desc := "()Ljava/lang/String;" } : Jvm.MethodName) prog_22_method_2_code (1 : Nat) (Option.some (Jvm.ClassFile.FieldType.object "java/lang/String"))).before args0 about1 = true := code_word (m := ⟨11, 1⟩) (meth := k11m1) (c := k11c1) (by decide +kernel) rfl rfl rfl (by decide +kernel)
set_option maxRecDepth 65536 in
theorem w_c28 : (Jvm.Cond.code ({ cls := "java/lang/StringBuilder", name := "append", desc := "(J)Ljava/lang/StringBuilder;" } : Jvm.MethodName) jdk_67_method_16_code (3 : Nat) (Option.some (Jvm.ClassFile.FieldType.object "java/lang/StringBuilder"))).before args0 about1 = true := code_word (m := ⟨16, 2⟩) (meth := k16m2) (c := k16c2) (by decide +kernel) rfl rfl rfl (by decide +kernel)
set_option maxRecDepth 65536 in
theorem w_c29 : (Jvm.Cond.code ({ cls := "java/lang/AbstractStringBuilder", name := "append", desc := "(J)Ljava/lang/AbstractStringBuilder;" } : Jvm.MethodName) jdk_68_method_33_code (5 : Nat) (Option.some (Jvm.ClassFile.FieldType.object "java/lang/AbstractStringBuilder"))).before args0 about1 = true := code_word (m := ⟨15, 6⟩) (meth := k15m6) (c := k15c6) (by decide +kernel) rfl rfl rfl (by decide +kernel)
set_option maxRecDepth 65536 in
theorem w_c30 : (Jvm.Cond.code ({ cls := "java/lang/Long", name := "stringSize", desc := "(J)I" } : Jvm.MethodName) jdk_35_method_15_code (6 : Nat) (Option.some Jvm.ClassFile.FieldType.int)).before args0 about1 = true := code_word (m := ⟨19, 1⟩) (meth := k19m1) (c := k19c1) (by decide +kernel) rfl rfl rfl (by decide +kernel)
set_option maxRecDepth 65536 in
theorem w_c31 : (Jvm.Cond.code ({ cls := "java/lang/AbstractStringBuilder", name := "isLatin1", desc := "()Z" } : Jvm.MethodName) jdk_68_method_68_code (1 : Nat) (Option.some Jvm.ClassFile.FieldType.boolean)).before args0 about1 = true := code_word (m := ⟨15, 8⟩) (meth := k15m8) (c := k15c8) (by decide +kernel) rfl rfl rfl (by decide +kernel)
set_option maxRecDepth 65536 in
theorem w_c32 : (Jvm.Cond.code ({ cls := "java/lang/Long", name := "getChars", desc := "(JI[B)I" } : Jvm.MethodName) jdk_35_method_14_code (11 : Nat) (Option.some Jvm.ClassFile.FieldType.int)).before args0 about1 = true := code_word (m := ⟨19, 0⟩) (meth := k19m0) (c := k19c0) (by decide +kernel) rfl rfl rfl (by decide +kernel)
set_option maxRecDepth 65536 in
theorem w_c33 : (Jvm.Cond.code ({ cls := "java/lang/AbstractStringBuilder", name := "newCapacity", desc := "(I)I" } : Jvm.MethodName) jdk_68_method_10_code (6 : Nat) (Option.some Jvm.ClassFile.FieldType.int)).before args0 about1 = true := code_word (m := ⟨15, 4⟩) (meth := k15m4) (c := k15c4) (by decide +kernel) rfl rfl rfl (by decide +kernel)
set_option maxRecDepth 65536 in
theorem w_c34 : (Jvm.Cond.code ({ cls := "jdk/internal/util/ArraysSupport", name := "newLength", desc := "(III)I" } : Jvm.MethodName) jdk_48_method_27_code (4 : Nat) (Option.some Jvm.ClassFile.FieldType.int)).before args0 about1 = true := code_word (m := ⟨21, 1⟩) (meth := k21m1) (c := k21c1) (by decide +kernel) rfl rfl rfl (by decide +kernel)
set_option maxRecDepth 65536 in
theorem w_c35 : (Jvm.Cond.code ({ cls := "java/lang/Math", name := "max", desc := "(II)I" } : Jvm.MethodName) jdk_29_method_65_code (2 : Nat) (Option.some Jvm.ClassFile.FieldType.int)).before args0 about1 = true := code_word (m := ⟨22, 1⟩) (meth := k22m1) (c := k22c1) (by decide +kernel) rfl rfl rfl (by decide +kernel)
set_option maxRecDepth 65536 in
theorem w_c36 : (Jvm.Cond.code ({ cls := "java/util/Arrays", name := "copyOf", desc := "([BI)[B" } : Jvm.MethodName) jdk_65_method_121_code (3 : Nat) (Option.some (Jvm.ClassFile.FieldType.array Jvm.ClassFile.FieldType.byte))).before args0 about1 = true := code_word (m := ⟨23, 1⟩) (meth := k23m1) (c := k23c1) (by decide +kernel) rfl rfl rfl (by decide +kernel)
set_option maxRecDepth 65536 in
theorem w_c37 : (Jvm.Cond.code ({ cls := "java/lang/Math", name := "min", desc := "(II)I" } : Jvm.MethodName) jdk_29_method_69_code (2 : Nat) (Option.some Jvm.ClassFile.FieldType.int)).before args0 about1 = true := code_word (m := ⟨22, 2⟩) (meth := k22m2) (c := k22c2) (by decide +kernel) rfl rfl rfl (by decide +kernel)
set_option maxRecDepth 65536 in
theorem w_c38 : (Jvm.Cond.code ({ cls := "java/lang/StringBuilder", name := "toString", desc := "()Ljava/lang/String;" } : Jvm.MethodName) jdk_67_method_42_code (1 : Nat) (Option.some (Jvm.ClassFile.FieldType.object "java/lang/String"))).before args0 about1 = true := code_word (m := ⟨16, 3⟩) (meth := k16m3) (c := k16c3) (by decide +kernel) rfl rfl rfl (by decide +kernel)
set_option maxRecDepth 65536 in
theorem w_c39 : (Jvm.Cond.code ({ cls := "java/lang/String", name := "<init>", desc := "(Ljava/lang/StringBuilder;)V" } : Jvm.MethodName) jdk_42_method_53_code (2 : Nat) (Option.none : Option Jvm.ClassFile.FieldType)).before args0 about1 = true := code_word (m := ⟨7, 1⟩) (meth := k7m1) (c := k7c1) (by decide +kernel) rfl rfl rfl (by decide +kernel)
set_option maxRecDepth 65536 in
theorem w_c40 : (Jvm.Cond.code ({ cls := "java/lang/String", name := "<init>", desc := "(Ljava/lang/AbstractStringBuilder;Ljava/lang/Void;)V" } : Jvm.MethodName) jdk_42_method_150_code (5 : Nat) (Option.none : Option Jvm.ClassFile.FieldType)).before args0 about1 = true := code_word (m := ⟨7, 6⟩) (meth := k7m6) (c := k7c6) (by decide +kernel) rfl rfl rfl (by decide +kernel)
set_option maxRecDepth 65536 in
theorem w_c41 : (Jvm.Cond.code ({ cls := "java/lang/AbstractStringBuilder", name := "getValue", desc := "()[B" } : Jvm.MethodName) jdk_68_method_64_code (1 : Nat) (Option.some (Jvm.ClassFile.FieldType.array Jvm.ClassFile.FieldType.byte))).before args0 about1 = true := code_word (m := ⟨15, 7⟩) (meth := k15m7) (c := k15c7) (by decide +kernel) rfl rfl rfl (by decide +kernel)
set_option maxRecDepth 65536 in
theorem w_c42 : (Jvm.Cond.code ({ cls := "java/lang/StringBuilder", name := "length", desc := "()I" } : Jvm.MethodName) jdk_67_method_93_code (1 : Nat) (Option.some Jvm.ClassFile.FieldType.int)).before args0 about1 = true := code_word (m := ⟨16, 4⟩) (meth := k16m4) (c := k16c4) (by decide +kernel) rfl rfl rfl (by decide +kernel)
set_option maxRecDepth 65536 in
theorem w_c43 : (Jvm.Cond.code ({ cls := "java/lang/AbstractStringBuilder", name := "length", desc := "()I" } : Jvm.MethodName) jdk_68_method_6_code (1 : Nat) (Option.some Jvm.ClassFile.FieldType.int)).before args0 about1 = true := code_word (m := ⟨15, 2⟩) (meth := k15m2) (c := k15c2) (by decide +kernel) rfl rfl rfl (by decide +kernel)
set_option maxRecDepth 65536 in
theorem w_c44 : (Jvm.Cond.code ({ cls := "java/util/Arrays", name := "copyOfRange", desc := "([BII)[B" } : Jvm.MethodName) jdk_65_method_132_code (3 : Nat) (Option.some (Jvm.ClassFile.FieldType.array Jvm.ClassFile.FieldType.byte))).before args0 about1 = true := code_word (m := ⟨23, 3⟩) (meth := k23m3) (c := k23c3) (by decide +kernel) rfl rfl rfl (by decide +kernel)
set_option maxRecDepth 65536 in
theorem w_c45 : (Jvm.Cond.code ({ cls := "java/util/Arrays", name := "copyOfRangeByte", desc := "([BII)[B" } : Jvm.MethodName) jdk_65_method_133_code (5 : Nat) (Option.some (Jvm.ClassFile.FieldType.array Jvm.ClassFile.FieldType.byte))).before args0 about1 = true := code_word (m := ⟨23, 4⟩) (meth := k23m4) (c := k23c4) (by decide +kernel) rfl rfl rfl (by decide +kernel)
set_option maxRecDepth 65536 in
theorem w_c46 : (Jvm.Cond.code ({ cls := "java/util/Arrays", name := "checkLength", desc := "(II)V" } : Jvm.MethodName) jdk_65_method_131_code (2 : Nat) (Option.none : Option Jvm.ClassFile.FieldType)).before args0 about1 = true := code_word (m := ⟨23, 2⟩) (meth := k23m2) (c := k23c2) (by decide +kernel) rfl rfl rfl (by decide +kernel)
set_option maxRecDepth 65536 in
theorem w_c47 : (Jvm.Cond.code ({ cls := "com/example/hemotide/hemotide/link/Transfer", name := "repeats", desc := "(Lcom/example/hemotide/hemotide/link/Frame;)Z" } : Jvm.MethodName) prog_35_method_3_code (2 : Nat) (Option.some Jvm.ClassFile.FieldType.boolean)).before args0 about1 = true := code_word (m := ⟨12, 2⟩) (meth := k12m2) (c := k12c2) (by decide +kernel) rfl rfl rfl (by decide +kernel)
set_option maxRecDepth 65536 in
theorem w_c48 : (Jvm.Cond.code ({ cls := "com/example/hemotide/hemotide/link/Transfer", name := "take", desc := "(Lcom/example/hemotide/hemotide/link/Frame;)Lcom/example/hemotide/hemotide/records/AstmMessage;" } : Jvm.MethodName) prog_35_method_5_code (2 : Nat) (Option.some (Jvm.ClassFile.FieldType.object "com/example/hemotide/hemotide/records/AstmMessage"))).before args0 about1 = true := code_word (m := ⟨12, 4⟩) (meth := k12m4) (c := k12c4) (by decide +kernel) rfl rfl rfl (by decide +kernel)
set_option maxRecDepth 65536 in
theorem w_c49 : (Jvm.Cond.code ({ cls := "com/example/hemotide/hemotide/link/E1381", name := "frameNumberAfter", desc := "(I)I" } : Jvm.MethodName) prog_21_method_2_code (1 : Nat) (Option.some Jvm.ClassFile.FieldType.int)).before args0 about1 = true := code_word (m := ⟨25, 1⟩) (meth := k25m1) (c := k25c1) (by decide +kernel) rfl rfl rfl (by decide +kernel)
set_option maxRecDepth 65536 in
theorem w_c50 : (Jvm.Cond.code ({ cls := "com/example/hemotide/hemotide/link/MessageAssembler", name := "add", desc := "(Lcom/example/hemotide/hemotide/link/Frame;)Lcom/example/hemotide/hemotide/records/AstmMessage;" } : Jvm.MethodName) prog_33_method_2_code (5 : Nat) (Option.some (Jvm.ClassFile.FieldType.object "com/example/hemotide/hemotide/records/AstmMessage"))).before args0 about1 = true := code_word (m := ⟨13, 1⟩) (meth := k13m1) (c := k13c1) (by decide +kernel) rfl rfl rfl (by decide +kernel)
set_option maxRecDepth 65536 in
theorem w_c51 : (Jvm.Cond.code ({ cls := "com/example/hemotide/hemotide/link/Frame", name := "endsRecord", desc := "()Z" } : Jvm.MethodName) prog_22_method_11_code (1 : Nat) (Option.some Jvm.ClassFile.FieldType.boolean)).before args0 about1 = true := code_word (m := ⟨11, 4⟩) (meth := k11m4) (c := k11c4) (by decide +kernel) rfl rfl rfl (by decide +kernel)
def codes1 : List Jvm.Cond := [Jvm.Cond.code x code maxLocals ret, Jvm.Cond.code ({ cls := "java/lang/String", name := "valueOf", desc := "(C)Ljava/lang/String;" } : Jvm.MethodName) jdk_42_method_139_code (1 : Nat) (Option.some (Jvm.ClassFile.FieldType.object "java/lang/String")), Jvm.Cond.code ({ cls := "java/lang/StringLatin1", name := "canEncode", desc := "(C)Z" } : Jvm.MethodName) jdk_43_method_3_code (1 : Nat) (Option.some Jvm.ClassFile.FieldType.boolean), Jvm.Cond.code ({ cls := "java/lang/StringLatin1", name := "toBytes", desc := "(C)[B" } : Jvm.MethodName) jdk_43_method_46_code (1 : Nat) (Option.some (Jvm.ClassFile.FieldType.array Jvm.ClassFile.FieldType.byte)), Jvm.Cond.code ({ cls := "java/lang/String", name := "<init>", desc := "([BB)V" } : Jvm.MethodName) jdk_42_method_151_code (3 : Nat) (Option.none : Option Jvm.ClassFile.FieldType), Jvm.Cond.code ({ cls := "java/lang/Object", name := "<init>", desc := "()V" } : Jvm.MethodName) object_method_1_code (1 : Nat) (Option.none : Option Jvm.ClassFile.FieldType), Jvm.Cond.code ({ cls := "com/example/hemotide/hemotide/link/Frame", name := "<init>", desc := "(JJJILjava/lang/String;ZZLjava/lang/String;)V" } : Jvm.MethodName) prog_22_method_1_code (12 : Nat) (Option.none : Option Jvm.ClassFile.FieldType), Jvm.Cond.code ({ cls := "java/lang/Record", name := "<init>", desc := "()V" } : Jvm.MethodName) jdk_30_method_1_code (1 : Nat) (Option.none : Option Jvm.ClassFile.FieldType), Jvm.Cond.code ({ cls := "com/example/hemotide/hemotide/link/Transfer", name := "<init>", desc := "()V" } : Jvm.MethodName) prog_35_method_1_code (1 : Nat) (Option.none : Option Jvm.ClassFile.FieldType), Jvm.Cond.code ({ cls := "com/example/hemotide/hemotide/link/MessageAssembler", name := "<init>", desc := "()V" } : Jvm.MethodName) prog_33_method_1_code (1 : Nat) (Option.none : Option Jvm.ClassFile.FieldType), Jvm.Cond.code ({ cls := "java/lang/StringBuilder", name := "<init>", desc := "()V" } : Jvm.MethodName) jdk_67_method_1_code (1 : Nat) (Option.none : Option Jvm.ClassFile.FieldType), Jvm.Cond.code ({ cls := "java/lang/AbstractStringBuilder", name := "<init>", desc := "(I)V" } : Jvm.MethodName) jdk_68_method_2_code (2 : Nat) (Option.none : Option Jvm.ClassFile.FieldType), Jvm.Cond.code ({ cls := "com/example/hemotide/hemotide/link/Transfer", name := "refuse", desc := "(Lcom/example/hemotide/hemotide/link/Frame;)Z" } : Jvm.MethodName) prog_35_method_4_code (2 : Nat) (Option.some Jvm.ClassFile.FieldType.boolean), Jvm.Cond.code ({ cls := "com/example/hemotide/hemotide/link/Frame", name := "defect", desc := "()Ljava/lang/String;" } : Jvm.MethodName) prog_22_method_13_code (1 : Nat) (Option.some (Jvm.ClassFile.FieldType.object "java/lang/String")), Jvm.Cond.code ({ cls := "java/lang/String", name := "equals", desc := "(Ljava/lang/Object;)Z" } : Jvm.MethodName) jdk_42_method_66_code (3 : Nat) (Option.some Jvm.ClassFile.FieldType.boolean), Jvm.Cond.code ({ cls := "java/lang/StringLatin1", name := "equals", desc := "([B[B)Z" } : Jvm.MethodName) jdk_43_method_13_code (3 : Nat) (Option.some Jvm.ClassFile.FieldType.boolean), Jvm.Cond.code ({ cls := "com/example/hemotide/hemotide/link/Transfer", name := "refusal", desc := "(Lcom/example/hemotide/hemotide/link/Frame;)Ljava/lang/String;" } : Jvm.MethodName) prog_35_method_2_code (2 : Nat) (Option.some (Jvm.ClassFile.FieldType.object "java/lang/String")), Jvm.Cond.code ({ cls := "com/example/hemotide/hemotide/link/Frame", name := "number", desc := "()I" } : Jvm.MethodName) prog_22_method_9_code (1 : Nat) (Option.some Jvm.ClassFile.FieldType.int), Jvm.Cond.code ({ cls := "com/example/hemotide/hemotide/link/Frame", name := "text", desc := "()Ljava/lang/String;" } : Jvm.MethodName) prog_22_method_10_code (1 : Nat) (Option.some (Jvm.ClassFile.FieldType.object "java/lang/String")), Jvm.Cond.code ({ cls := "java/lang/StringBuilder", name := "append", desc := "(Ljava/lang/String;)Ljava/lang/StringBuilder;" } : Jvm.MethodName) jdk_67_method_7_code (2 : Nat) (Option.some (Jvm.ClassFile.FieldType.object "java/lang/StringBuilder")), Jvm.Cond.code ({ cls := "java/lang/AbstractStringBuilder", name := "append", desc := "(Ljava/lang/String;)Ljava/lang/AbstractStringBuilder;" } : Jvm.MethodName) jdk_68_method_22_code (3 : Nat) (Option.some (Jvm.ClassFile.FieldType.object "java/lang/AbstractStringBuilder")), Jvm.Cond.code ({ cls := "java/lang/String", name := "length", desc := "()I" } : Jvm.MethodName) jdk_42_method_54_code (1 : Nat) (Option.some Jvm.ClassFile.FieldType.int), Jvm.Cond.code ({ cls := "java/lang/String", name := "coder", desc := "()B" } : Jvm.MethodName) jdk_42_method_152_code (1 : Nat) (Option.some Jvm.ClassFile.FieldType.byte), Jvm.Cond.code ({ cls := "java/lang/AbstractStringBuilder", name := "ensureCapacityInternal", desc := "(I)V" } : Jvm.MethodName) jdk_68_method_9_code (3 : Nat) (Option.none : Option Jvm.ClassFile.FieldType), Jvm.Cond.code ({ cls := "java/lang/AbstractStringBuilder", name := "putStringAt", desc := "(ILjava/lang/String;)V" } : Jvm.MethodName) jdk_68_method_73_code (3 : Nat) (Option.none : Option Jvm.ClassFile.FieldType), Jvm.Cond.code ({ cls := "java/lang/AbstractStringBuilder", name := "inflateIfNeededFor", desc := "(Ljava/lang/String;)V" } : Jvm.MethodName) jdk_68_method_71_code (2 : Nat) (Option.none : Option Jvm.ClassFile.FieldType), Jvm.Cond.code ({ cls := "java/lang/String", name := "getBytes", desc := "([BIB)V" } : Jvm.MethodName) jdk_42_method_147_code (4 : Nat) (Option.none : Option Jvm.ClassFile.FieldType), Jvm.Cond.code ({ cls := "com/example/hemotide/hemotide/link/Frame", name := "describe", desc := "()Ljava/lang/String;" } : Jvm.MethodName) prog_22_method_2_code (1 : Nat) (Option.some (Jvm.ClassFile.FieldType.object "java/lang/String")), Jvm.Cond.code ({ cls := "java/lang/StringBuilder", name := "append", desc := "(J)Ljava/lang/StringBuilder;" } : Jvm.MethodName) jdk_67_method_16_code (3 : Nat) (Option.some (Jvm.ClassFile.FieldType.object "java/lang/StringBuilder")), Jvm.Cond.code ({ cls := "java/lang/AbstractStringBuilder", name := "append", desc := "(J)Ljava/lang/AbstractStringBuilder;" } : Jvm.MethodName) jdk_68_method_33_code (5 : Nat) (Option.some (Jvm.ClassFile.FieldType.object "java/lang/AbstractStringBuilder")), Jvm.Cond.code ({ cls := "java/lang/Long", name := "stringSize", desc := "(J)I" } : Jvm.MethodName) jdk_35_method_15_code (6 : Nat) (Option.some Jvm.ClassFile.FieldType.int), Jvm.Cond.code ({ cls := "java/lang/AbstractStringBuilder", name := "isLatin1", desc := "()Z" } : Jvm.MethodName) jdk_68_method_68_code (1 : Nat) (Option.some Jvm.ClassFile.FieldType.boolean), Jvm.Cond.code ({ cls := "java/lang/Long", name := "getChars", desc := "(JI[B)I" } : Jvm.MethodName) jdk_35_method_14_code (11 : Nat) (Option.some Jvm.ClassFile.FieldType.int), Jvm.Cond.code ({ cls := "java/lang/AbstractStringBuilder", name := "newCapacity", desc := "(I)I" } : Jvm.MethodName) jdk_68_method_10_code (6 : Nat) (Option.some Jvm.ClassFile.FieldType.int), Jvm.Cond.code ({ cls := "jdk/internal/util/ArraysSupport", name := "newLength", desc := "(III)I" } : Jvm.MethodName) jdk_48_method_27_code (4 : Nat) (Option.some Jvm.ClassFile.FieldType.int), Jvm.Cond.code ({ cls := "java/lang/Math", name := "max", desc := "(II)I" } : Jvm.MethodName) jdk_29_method_65_code (2 : Nat) (Option.some Jvm.ClassFile.FieldType.int), Jvm.Cond.code ({ cls := "java/util/Arrays", name := "copyOf", desc := "([BI)[B" } : Jvm.MethodName) jdk_65_method_121_code (3 : Nat) (Option.some (Jvm.ClassFile.FieldType.array Jvm.ClassFile.FieldType.byte)), Jvm.Cond.code ({ cls := "java/lang/Math", name := "min", desc := "(II)I" } : Jvm.MethodName) jdk_29_method_69_code (2 : Nat) (Option.some Jvm.ClassFile.FieldType.int), Jvm.Cond.code ({ cls := "java/lang/StringBuilder", name := "toString", desc := "()Ljava/lang/String;" } : Jvm.MethodName) jdk_67_method_42_code (1 : Nat) (Option.some (Jvm.ClassFile.FieldType.object "java/lang/String")), Jvm.Cond.code ({ cls := "java/lang/String", name := "<init>", desc := "(Ljava/lang/StringBuilder;)V" } : Jvm.MethodName) jdk_42_method_53_code (2 : Nat) (Option.none : Option Jvm.ClassFile.FieldType), Jvm.Cond.code ({ cls := "java/lang/String", name := "<init>", desc := "(Ljava/lang/AbstractStringBuilder;Ljava/lang/Void;)V" } : Jvm.MethodName) jdk_42_method_150_code (5 : Nat) (Option.none : Option Jvm.ClassFile.FieldType), Jvm.Cond.code ({ cls := "java/lang/AbstractStringBuilder", name := "getValue", desc := "()[B" } : Jvm.MethodName) jdk_68_method_64_code (1 : Nat) (Option.some (Jvm.ClassFile.FieldType.array Jvm.ClassFile.FieldType.byte)), Jvm.Cond.code ({ cls := "java/lang/StringBuilder", name := "length", desc := "()I" } : Jvm.MethodName) jdk_67_method_93_code (1 : Nat) (Option.some Jvm.ClassFile.FieldType.int), Jvm.Cond.code ({ cls := "java/lang/AbstractStringBuilder", name := "length", desc := "()I" } : Jvm.MethodName) jdk_68_method_6_code (1 : Nat) (Option.some Jvm.ClassFile.FieldType.int), Jvm.Cond.code ({ cls := "java/util/Arrays", name := "copyOfRange", desc := "([BII)[B" } : Jvm.MethodName) jdk_65_method_132_code (3 : Nat) (Option.some (Jvm.ClassFile.FieldType.array Jvm.ClassFile.FieldType.byte)), Jvm.Cond.code ({ cls := "java/util/Arrays", name := "copyOfRangeByte", desc := "([BII)[B" } : Jvm.MethodName) jdk_65_method_133_code (5 : Nat) (Option.some (Jvm.ClassFile.FieldType.array Jvm.ClassFile.FieldType.byte)), Jvm.Cond.code ({ cls := "java/util/Arrays", name := "checkLength", desc := "(II)V" } : Jvm.MethodName) jdk_65_method_131_code (2 : Nat) (Option.none : Option Jvm.ClassFile.FieldType), Jvm.Cond.code ({ cls := "com/example/hemotide/hemotide/link/Transfer", name := "repeats", desc := "(Lcom/example/hemotide/hemotide/link/Frame;)Z" } : Jvm.MethodName) prog_35_method_3_code (2 : Nat) (Option.some Jvm.ClassFile.FieldType.boolean), Jvm.Cond.code ({ cls := "com/example/hemotide/hemotide/link/Transfer", name := "take", desc := "(Lcom/example/hemotide/hemotide/link/Frame;)Lcom/example/hemotide/hemotide/records/AstmMessage;" } : Jvm.MethodName) prog_35_method_5_code (2 : Nat) (Option.some (Jvm.ClassFile.FieldType.object "com/example/hemotide/hemotide/records/AstmMessage")), Jvm.Cond.code ({ cls := "com/example/hemotide/hemotide/link/E1381", name := "frameNumberAfter", desc := "(I)I" } : Jvm.MethodName) prog_21_method_2_code (1 : Nat) (Option.some Jvm.ClassFile.FieldType.int), Jvm.Cond.code ({ cls := "com/example/hemotide/hemotide/link/MessageAssembler", name := "add", desc := "(Lcom/example/hemotide/hemotide/link/Frame;)Lcom/example/hemotide/hemotide/records/AstmMessage;" } : Jvm.MethodName) prog_33_method_2_code (5 : Nat) (Option.some (Jvm.ClassFile.FieldType.object "com/example/hemotide/hemotide/records/AstmMessage")), Jvm.Cond.code ({ cls := "com/example/hemotide/hemotide/link/Frame", name := "endsRecord", desc := "()Z" } : Jvm.MethodName) prog_22_method_11_code (1 : Nat) (Option.some Jvm.ClassFile.FieldType.boolean)]
set_option maxRecDepth 65536 in
theorem codes_eq : words1.filter isCode = codes1 := rfl
theorem w_codes : ∀ c ∈ words1.filter isCode, c.before args0 about1 = true := by
  rw [codes_eq]
  intro c hc
  simp only [codes1, List.mem_cons, List.not_mem_nil, or_false] at hc
  rcases hc with rfl | rfl | rfl | rfl | rfl | rfl | rfl | rfl | rfl | rfl | rfl | rfl | rfl | rfl | rfl | rfl | rfl | rfl | rfl | rfl | rfl | rfl | rfl | rfl | rfl | rfl | rfl | rfl | rfl | rfl | rfl | rfl | rfl | rfl | rfl | rfl | rfl | rfl | rfl | rfl | rfl | rfl | rfl | rfl | rfl | rfl | rfl | rfl | rfl | rfl | rfl | rfl
  · exact w_c0
  · exact w_c1
  · exact w_c2
  · exact w_c3
  · exact w_c4
  · exact w_c5
  · exact w_c6
  · exact w_c7
  · exact w_c8
  · exact w_c9
  · exact w_c10
  · exact w_c11
  · exact w_c12
  · exact w_c13
  · exact w_c14
  · exact w_c15
  · exact w_c16
  · exact w_c17
  · exact w_c18
  · exact w_c19
  · exact w_c20
  · exact w_c21
  · exact w_c22
  · exact w_c23
  · exact w_c24
  · exact w_c25
  · exact w_c26
  · exact w_c27
  · exact w_c28
  · exact w_c29
  · exact w_c30
  · exact w_c31
  · exact w_c32
  · exact w_c33
  · exact w_c34
  · exact w_c35
  · exact w_c36
  · exact w_c37
  · exact w_c38
  · exact w_c39
  · exact w_c40
  · exact w_c41
  · exact w_c42
  · exact w_c43
  · exact w_c44
  · exact w_c45
  · exact w_c46
  · exact w_c47
  · exact w_c48
  · exact w_c49
  · exact w_c50
  · exact w_c51
set_option maxRecDepth 65536 in
theorem w_t1 : (words1.take 24).all (fun c => isCode c || c.before args0 about1) = true := by decide +kernel
set_option maxRecDepth 65536 in
theorem w_t2 : ((words1.drop 24).take 24).all (fun c => isCode c || c.before args0 about1) = true := by decide +kernel
set_option maxRecDepth 65536 in
theorem w_t3 : (((words1.drop 24).drop 24).take 24).all (fun c => isCode c || c.before args0 about1) = true := by decide +kernel
set_option maxRecDepth 65536 in
theorem w_t4 : ((((words1.drop 24).drop 24).drop 24).take 24).all (fun c => isCode c || c.before args0 about1) = true := by decide +kernel
set_option maxRecDepth 65536 in
theorem w_t5 : (((((words1.drop 24).drop 24).drop 24).drop 24).take 24).all (fun c => isCode c || c.before args0 about1) = true := by decide +kernel
set_option maxRecDepth 65536 in
theorem w_t6 : ((((((words1.drop 24).drop 24).drop 24).drop 24).drop 24).take 24).all (fun c => isCode c || c.before args0 about1) = true := by decide +kernel
set_option maxRecDepth 65536 in
theorem w_t7 : (((((((words1.drop 24).drop 24).drop 24).drop 24).drop 24).drop 24).take 24).all (fun c => isCode c || c.before args0 about1) = true := by decide +kernel
set_option maxRecDepth 65536 in
theorem w_t8 : ((((((((words1.drop 24).drop 24).drop 24).drop 24).drop 24).drop 24).drop 24).take 24).all (fun c => isCode c || c.before args0 about1) = true := by decide +kernel
set_option maxRecDepth 65536 in
theorem w_t9 : (((((((((words1.drop 24).drop 24).drop 24).drop 24).drop 24).drop 24).drop 24).drop 24).take 24).all (fun c => isCode c || c.before args0 about1) = true := by decide +kernel
set_option maxRecDepth 65536 in
theorem w_t10 : ((((((((((words1.drop 24).drop 24).drop 24).drop 24).drop 24).drop 24).drop 24).drop 24).drop 24).take 24).all (fun c => isCode c || c.before args0 about1) = true := by decide +kernel
set_option maxRecDepth 65536 in
theorem w_t11 : (((((((((((words1.drop 24).drop 24).drop 24).drop 24).drop 24).drop 24).drop 24).drop 24).drop 24).drop 24).take 24).all (fun c => isCode c || c.before args0 about1) = true := by decide +kernel
set_option maxRecDepth 65536 in
theorem w_t12 : ((((((((((((words1.drop 24).drop 24).drop 24).drop 24).drop 24).drop 24).drop 24).drop 24).drop 24).drop 24).drop 24).take 24).all (fun c => isCode c || c.before args0 about1) = true := by decide +kernel
set_option maxRecDepth 65536 in
theorem w_t13 : (((((((((((((words1.drop 24).drop 24).drop 24).drop 24).drop 24).drop 24).drop 24).drop 24).drop 24).drop 24).drop 24).drop 24).take 24).all (fun c => isCode c || c.before args0 about1) = true := by decide +kernel
set_option maxRecDepth 65536 in
theorem w_t14 : ((((((((((((((words1.drop 24).drop 24).drop 24).drop 24).drop 24).drop 24).drop 24).drop 24).drop 24).drop 24).drop 24).drop 24).drop 24).take 24).all (fun c => isCode c || c.before args0 about1) = true := by decide +kernel
set_option maxRecDepth 65536 in
theorem w_t15 : ((((((((((((((words1.drop 24).drop 24).drop 24).drop 24).drop 24).drop 24).drop 24).drop 24).drop 24).drop 24).drop 24).drop 24).drop 24).drop 24).all (fun c => isCode c || c.before args0 about1) = true := by decide +kernel
theorem w_tables : (allAtoms (Jvm.Cond.code x code maxLocals ret :: tables_1)).before args0 about1 = true := by
  rw [allAtoms_all]
  show words1.all (fun c => c.before args0 about1) = true
  refine all_split ?_ w_codes
  rw [← List.take_append_drop 24 words1, List.all_append, w_t1, ← List.take_append_drop 24 (words1.drop 24), List.all_append, w_t2, ← List.take_append_drop 24 ((words1.drop 24).drop 24), List.all_append, w_t3, ← List.take_append_drop 24 (((words1.drop 24).drop 24).drop 24), List.all_append, w_t4, ← List.take_append_drop 24 ((((words1.drop 24).drop 24).drop 24).drop 24), List.all_append, w_t5, ← List.take_append_drop 24 (((((words1.drop 24).drop 24).drop 24).drop 24).drop 24), List.all_append, w_t6, ← List.take_append_drop 24 ((((((words1.drop 24).drop 24).drop 24).drop 24).drop 24).drop 24), List.all_append, w_t7, ← List.take_append_drop 24 (((((((words1.drop 24).drop 24).drop 24).drop 24).drop 24).drop 24).drop 24), List.all_append, w_t8, ← List.take_append_drop 24 ((((((((words1.drop 24).drop 24).drop 24).drop 24).drop 24).drop 24).drop 24).drop 24), List.all_append, w_t9, ← List.take_append_drop 24 (((((((((words1.drop 24).drop 24).drop 24).drop 24).drop 24).drop 24).drop 24).drop 24).drop 24), List.all_append, w_t10, ← List.take_append_drop 24 ((((((((((words1.drop 24).drop 24).drop 24).drop 24).drop 24).drop 24).drop 24).drop 24).drop 24).drop 24), List.all_append, w_t11, ← List.take_append_drop 24 (((((((((((words1.drop 24).drop 24).drop 24).drop 24).drop 24).drop 24).drop 24).drop 24).drop 24).drop 24).drop 24), List.all_append, w_t12, ← List.take_append_drop 24 ((((((((((((words1.drop 24).drop 24).drop 24).drop 24).drop 24).drop 24).drop 24).drop 24).drop 24).drop 24).drop 24).drop 24), List.all_append, w_t13, ← List.take_append_drop 24 (((((((((((((words1.drop 24).drop 24).drop 24).drop 24).drop 24).drop 24).drop 24).drop 24).drop 24).drop 24).drop 24).drop 24).drop 24), List.all_append, w_t14, w_t15]
  rfl
set_option maxRecDepth 65536 in
theorem w_rest : rest_1_c.before args0 about1 = true := by decide +kernel
set_option maxRecDepth 65536 in
theorem w_case : (Jvm.Cond.and given_1 narrow_1).before args0 about1 = true := by decide +kernel
set_option maxRecDepth 65536 in
theorem w_consts : constsHeld consts_1 about1 := Jvm.Lit.constsHeldB_iff.mp (by decide +kernel)
theorem w_applies : (headSpec (Jvm.Cond.code x code maxLocals ret :: tables_1) room_1).applies x e0.platform about1 = true :=
  (Spec.applies_iff w_frames).mpr ⟨w_running, w_runnable, w_alone, w_named, w_hears, w_ripe, w_room, w_tables⟩
theorem atStart : AtStart classFile x code maxLocals ret World_1 tables_1 room_1 Calls_1 rest_1 Pre_1 launch0 p0 e0 about1 theMethod args0 below0 :=
  ⟨lists_1, trivial, launch0.admits_env _ _ _, launch0.least_env, fairChoices_fair.cas, fairChoices_fair.clock, w_frames, w_args, w_heap, w_applies, ⟨w_consts, trivial⟩, w_rest, w_case⟩
end start1
theorem witness_1 : WitnessClaimed_1 := ⟨start1.p0, start1.e0, start1.about1, start1.theMethod, start1.args0, start1.below0, start1.atStart⟩
end Jvm.Pilot.@@N@@
