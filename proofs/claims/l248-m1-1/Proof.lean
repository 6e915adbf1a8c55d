import JvmDerived
import JvmDerived.Pilot.@@N@@Statement
import JvmDerived.Pilot.@@N@@Code
set_option linter.unusedVariables false
set_option linter.unusedSimpArgs false
namespace Jvm.RoadKit
open Sem ClassFile Op Lib Jvm.Stand Jvm.Free Jvm.LawKit
section New
variable {p : Program} {l : Launch} {e : Env} {R : Room} {s : State} {m : MethodId} {args : Array Value} {below : List Frame} {meth : Method} {c : Code} {T : State} {locs : List Loc} {cells slots : Nat}
theorem retI (X : Stand p l e R s m args below meth c T locs cells slots) (hx : p.tables.exec = Jvm.exec) {pc : Nat} {Ls : Array Slot} {z : Int32} {rest : List Value} (hret : meth.sig.returnType = some .int) (hd : decode c.code pc = .ok (.ireturn, 1)) {fs : List Frame}
    (hl : ∀ (f : JFrame) (acts : List Action), f.method = m → f.locked = none → f.entered = [] → (doReturn e (T.setTop f) acts (some (.int z))).1 = T.setFrames fs) : Steps p.tables e below (T.setTop (mkF m pc Ls (.int z :: rest))) (T.setFrames fs) := by
  have hm' : T.vm.method? m = some meth := X.method'
  have hn : narrow .int (.int z) = .int z := rfl
  show Steps p.tables e below (T.setTop { method := m, pc := pc, locals := Ls, stack := _ :: rest, locked := none }) _
  jvm_step X.here [X.here.top, hx, hd, hm', hret, hn]
  first | (intro acts; rw [hl _ acts rfl rfl rfl]) | rw [hl _ _ rfl rfl rfl]
  exact Steps.refl _
end New
end Jvm.RoadKit
@@BLOCK:NumsL.lean.txt@@
@@BLOCK:SetKit.lean.txt@@
/- laws to paste: pair_says, Road.CodA, Road.wide_lo, Road.wide_hi, Road.low_at (cut by pick.py; bodies as the Statement names them) -/
namespace Jvm.Pilot.@@N@@
namespace StrChars
open Jvm Sem ClassFile Op Lib Jvm.Stand Jvm.Free.XT Jvm.Free.ALB Jvm.Free.JM Jvm.Free
open Jvm.Lib.Cold (StaticIs)
def lo8 (x : Int32) : Int32 := x.toInt8.toInt32
end StrChars
namespace StrChars
open Jvm Sem ClassFile Op Lib Jvm.Stand Jvm.Free.XT Jvm.Free.ALB Jvm.Free.JM Jvm.Free
open Jvm.Lib.Cold (StaticIs)
def hi8 (x : Int32) : Int32 := lo8 (x >>> ((8 : Int32) &&& 31))
def pairCh (u v : Int32) : Int32 := (((u &&& 255) <<< ((0 : Int32) &&& 31)) ||| ((v &&& 255) <<< ((8 : Int32) &&& 31))).toUInt32.toUInt16.toUInt32.toInt32
theorem lo8_and (x : Int32) : (lo8 x &&& 255).toBitVec.toNat = x.toBitVec.toNat % 256 := by
  have h : (lo8 x).toBitVec = (x.toBitVec.signExtend 8).signExtend 32 := by rw [lo8, Int8.toBitVec_toInt32, Int32.toBitVec_toInt8]
  rw [Int32.toBitVec_and, BitVec.toNat_and, h]
  have e : ((x.toBitVec.signExtend 8).signExtend 32).toNat % 256 = x.toBitVec.toNat % 256 := by
    rw [BitVec.toNat_signExtend]
    have hlt := x.toBitVec.isLt
    simp only [BitVec.toNat_setWidth, BitVec.toNat_signExtend]
    split <;> split <;> omega
  rw [← e]
  exact Nat.and_two_pow_sub_one_eq_mod _ 8
theorem pair_says {c : Int32} (h0 : ¬ c < 0) (h1 : ¬ 65535 < c) : pairCh (lo8 c) (hi8 c) = c := by
  rw [Int32.lt_iff_toInt_lt] at h0 h1
  have e0 : (0 : Int32).toInt = 0 := rfl
  have e1 : (65535 : Int32).toInt = 65535 := rfl
  have hc : c.toInt = c.toBitVec.toNat := by
    have := c.toBitVec.isLt
    have e : c.toInt = c.toBitVec.toInt := rfl
    rw [e] at h0 h1
    rw [e]
    rw [BitVec.toInt_eq_toNat_cond] at h0 h1 ⊢
    split at h0 <;> split <;> omega
  have hn : c.toBitVec.toNat < 65536 := by omega
  have a1 := lo8_and c
  have a2 : (hi8 c &&& 255).toBitVec.toNat = c.toBitVec.toNat / 256 := by
    rw [hi8, lo8_and]
    have e : ((8 : Int32) &&& 31) = 8 := by decide
    rw [e, Int32.toBitVec_shiftRight]
    have e2 : ((8 : Int32).toBitVec.smod 32) = 8#32 := by decide
    rw [e2, BitVec.sshiftRight_eq', BitVec.toNat_sshiftRight_of_msb_false (by rw [BitVec.msb_eq_false_iff_two_mul_lt]; omega)]
    show c.toBitVec.toNat >>> 8 % 256 = _
    rw [Nat.shiftRight_eq_div_pow]
    omega
  unfold pairCh
  apply Int32.toBitVec_inj.mp
  apply BitVec.eq_of_toNat_eq
  have f0 : ((0 : Int32) &&& 31) = 0 := by decide
  have f8 : ((8 : Int32) &&& 31) = 8 := by decide
  rw [f0, f8]
  have g : (((lo8 c &&& 255) <<< (0 : Int32)) ||| ((hi8 c &&& 255) <<< (8 : Int32))).toBitVec.toNat = c.toBitVec.toNat := by
    rw [Int32.toBitVec_or, Int32.toBitVec_shiftLeft, Int32.toBitVec_shiftLeft]
    have s0 : ((0 : Int32).toBitVec.smod 32) = 0#32 := by decide
    have s8 : ((8 : Int32).toBitVec.smod 32) = 8#32 := by decide
    rw [s0, s8, BitVec.toNat_or]
    simp only [BitVec.shiftLeft_eq', BitVec.toNat_shiftLeft, a1, a2]
    show (c.toBitVec.toNat % 256) <<< 0 % 2 ^ 32 ||| (c.toBitVec.toNat / 256) <<< 8 % 2 ^ 32 = _
    rw [Nat.shiftLeft_zero, Nat.mod_eq_of_lt (show c.toBitVec.toNat % 256 < 2 ^ 32 by omega), Nat.mod_eq_of_lt (show (c.toBitVec.toNat / 256) <<< 8 < 2 ^ 32 by rw [Nat.shiftLeft_eq]; omega), Nat.or_comm, ← Nat.shiftLeft_add_eq_or_of_lt (by omega), Nat.shiftLeft_eq]
    omega
  show BitVec.toNat (((((lo8 c &&& 255) <<< (0 : Int32)) ||| ((hi8 c &&& 255) <<< (8 : Int32))).toBitVec.setWidth 16).setWidth 32) = _
  rw [BitVec.toNat_setWidth, BitVec.toNat_setWidth, g]
  omega
end StrChars
namespace StrChars.Road
open Jvm Sem ClassFile Op Lib Jvm.Stand Jvm.Free Jvm.Free.XT
open Jvm.Lib.Cold (StaticIs)
def wideBytes : List Int32 → List Value
  | [] => []
  | c :: cs => .int (lo8 c) :: .int (hi8 c) :: wideBytes cs
theorem wide_lo (d : Value) : ∀ (cs : List Int32) (j : Nat), j < cs.length → (wideBytes cs).getD (2 * j) d = .int (lo8 (cs.getD j 0))
  | [], j, h => absurd h (Nat.not_lt_zero j)
  | c :: cs, 0, _ => rfl
  | c :: cs, j + 1, h => by
    have q := wide_lo d cs j (by simpa using h)
    rw [show 2 * (j + 1) = 2 * j + 1 + 1 from by omega]
    simpa [wideBytes] using q
theorem wide_hi (d : Value) : ∀ (cs : List Int32) (j : Nat), j < cs.length → (wideBytes cs).getD (2 * j + 1) d = .int (hi8 (cs.getD j 0))
  | [], j, h => absurd h (Nat.not_lt_zero j)
  | c :: cs, 0, _ => rfl
  | c :: cs, j + 1, h => by
    have q := wide_hi d cs j (by simpa using h)
    rw [show 2 * (j + 1) + 1 = 2 * j + 1 + 1 + 1 from by omega]
    simpa [wideBytes] using q
theorem low_at (d : Value) (cs : List Int32) (j : Nat) (h : j < cs.length) : (cs.map fun c => Value.int (lo8 c)).getD j d = .int (lo8 (cs.getD j 0)) := by
  simp [List.getD_eq_getElem?_getD, h]
def CodA (cs : List Int32) (cd N2 : Int32) (vs : List Value) : Prop := (cd = 0 ∧ N2 = Int32.ofNat cs.length ∧ vs = (cs.map fun c => Value.int (lo8 c)) ∧ ∀ c ∈ cs, ¬ 255 < c) ∨ (cd = 1 ∧ N2 = Int32.ofNat (2 * cs.length) ∧ vs = wideBytes cs ∧ ∃ c ∈ cs, 255 < c)
end StrChars.Road
end Jvm.Pilot.@@N@@
namespace Jvm.Pilot.@@N@@
open Jvm Jvm.ClassFile Sem Op Lib Jvm.Free Jvm.Stand Jvm.LawKit Jvm.RoadKit Bundle Jvm.Pilot.@@N@@.Jvm.D
theorem own_selP {s : State} {args args' : Array Value} {y x z : MethodName} {C : String} (h : (Jvm.Cond.selects C x z).before args' s = true) (hz : z.cls = y.cls) (hp : s.PrivateAt y) (hi : (Jvm.Cond.instanceMethod y).before args s = true) (hy : y.cls ≠ "java/lang/invoke/MethodHandle" ∧ y.cls ≠ "java/lang/invoke/VarHandle") : (Jvm.Cond.selects y.cls y y).before args s = true := by
  obtain ⟨c2, r2, m2, -, -, q3, -, kP, hkP, hkPi⟩ := Cond.selects_spec h
  exact Jvm.Stand.selects_self_of_private (hz ▸ findClass_of_methodNamed q3) hkP hkPi hp hi hy
theorem own_sameP {s : State} {args : Array Value} {y x z : MethodName} {C : String} (h : (Jvm.Cond.selects C x z).before args s = true) (hz : z.cls = y.cls) (hi : (Jvm.Cond.instanceMethod y).before args s = true) (hy : y.cls ≠ "java/lang/invoke/MethodHandle" ∧ y.cls ≠ "java/lang/invoke/VarHandle") : (Jvm.Cond.sameMethod y.cls y.cls y.name y.desc).before args s = true := by
  obtain ⟨c2, r2, m2, -, -, q3, -, kP, hkP, hkPi⟩ := Cond.selects_spec h
  obtain ⟨mk, methM, hnamed, hmethM, -, -⟩ := Cond.instanceMethod_spec hi
  have hf := State.methodFound?_of_named hnamed hy
  have hc := findClass_of_methodNamed hnamed
  have hc2 : s.vm.findClass y.cls = some m2.cls := hz ▸ findClass_of_methodNamed q3
  have e : mk.cls = m2.cls := Option.some.inj (hc.symm.trans hc2)
  simp [Cond.before, Cond.holds, Cond.value, hc, hf, hnamed, e, hkP, hkPi]
theorem own_nf {s : State} {args : Array Value} {y x z : MethodName} {C : String} (h : (Jvm.Cond.selects C x z).before args s = true) (hz : z.cls = y.cls) : NotFace s y := fun r0 h0 => by
  obtain ⟨c2, r2, m2, -, -, q3, -, kP, hkP, hkPi⟩ := Cond.selects_spec h
  have hc2 : s.vm.findClass y.cls = some m2.cls := hz ▸ findClass_of_methodNamed q3
  have e : r0.cls = m2.cls := Option.some.inj ((findClass_of_methodNamed h0).symm.trans hc2)
  exact ⟨kP, by rw [e]; exact hkP, hkPi⟩
set_option maxRecDepth 65536
set_option maxHeartbeats 40000000
abbrev HW (a0 : Array Value) (Z : State) : Prop := ∀ d ∈ tables_1, d.before a0 Z = true
abbrev SP (pg : Program) (ev : Env) (below : List Frame) (a b : State) : Prop := Steps pg.tables ev below a b
abbrev rr (a b c d : Nat) : Room := { frames := a, cells := b, slots := c, locals := d }
theorem gm {d : Cond} (i : Nat) (h : tables_1[i]? = some d) : d ∈ tables_1 := List.mem_of_getElem? h
abbrev MF (la : Launch) (Z : State) (hE : Heap) (y : MethodName) (c : ByteArray) (ml : Nat) (r : Option FieldType) (ws : List Cond) (rm : Room) (A : Array Value) (Q : Option Value → Heap → List Loc → Prop) : Prop := MetFree la y (head1 (Cond.code y c ml r :: ws) rm) (fun aa UU => aa = A ∧ Z.Warmed39 UU.vm ∧ UU.heap = hE) (fun _ _ _ _ _ => True) (fun _ UU oo UV => ∃ vv LL, oo = .returned vv ∧ Q vv UV.heap LL ∧ FrameEnd UU oo UV LL rm.cells rm.slots)
abbrev jc0 := jdk_42_method_152_code
abbrev jc1 := jdk_42_method_154_code
abbrev jc2 := jdk_42_method_158_code
abbrev jc3 := jdk_42_method_157_code
abbrev jc4 := jdk_42_method_149_code
abbrev jc5 := jdk_65_method_131_code
abbrev jc6 := jdk_65_method_133_code
abbrev jc7 := jdk_65_method_132_code
abbrev jc8 := jdk_42_method_151_code
abbrev jc9 := jdk_42_method_155_code
abbrev jc10 := jdk_42_method_54_code
abbrev jc11 := jdk_29_method_65_code
abbrev jc12 := jdk_29_method_69_code
abbrev jc13 := jdk_41_method_12_code
abbrev jc14 := jdk_52_method_93_code
abbrev jc15 := jdk_41_method_13_code
abbrev jc16 := jdk_52_method_94_code
abbrev jc17 := jdk_52_method_15_code
abbrev jc18 := jdk_52_method_14_code
abbrev jc19 := jdk_52_method_21_code
abbrev jc20 := jdk_52_method_16_code
abbrev jc21 := jdk_43_method_23_code
abbrev jc22 := jdk_52_method_48_code
abbrev jc23 := jdk_43_method_22_code
abbrev jc24 := jdk_52_method_47_code
abbrev jc25 := jdk_52_method_40_code
abbrev jc26 := jdk_42_method_80_code
abbrev jc27 := jdk_42_method_79_code
abbrev jc28 := jdk_43_method_47_code
abbrev jc29 := jdk_52_method_22_code
abbrev jc30 := jdk_52_method_17_code
abbrev jc31 := jdk_52_method_69_code
abbrev jc32 := jdk_42_method_92_code
abbrev jc33 := jdk_42_method_91_code
abbrev jc34 := jdk_41_method_11_code
abbrev jc35 := jdk_52_method_91_code
abbrev jc36 := jdk_52_method_83_code
abbrev jc37 := jdk_42_method_56_code
abbrev jc38 := prog_57_method_4_code
abbrev jc39 := jdk_52_method_5_code
abbrev jc40 := jdk_52_method_4_code
abbrev jc41 := jdk_52_method_6_code
abbrev jc42 := jdk_52_method_3_code
abbrev jc43 := jdk_52_method_2_code
abbrev jc44 := jdk_42_method_3_code
abbrev jc45 := jdk_43_method_4_code
abbrev jc46 := jdk_43_method_2_code
abbrev jc47 := method_3_code
abbrev jc48 := method_4_code
abbrev jc49 := method_5_code
abbrev jc50 := method_6_code
abbrev c0_ : String := "java/lang/String"
abbrev c1_ : String := "java/lang/StringUTF16"
abbrev c2_ : String := "com/example/detangle/detangle/TestListCaseNamePinLaw"
abbrev c3_ : String := "jdk/internal/util/Preconditions"
abbrev c4_ : String := "Ljava/util/function/BiFunction;"
abbrev c5_ : String := "java/lang/StringLatin1"
abbrev c6_ : String := "$assertionsDisabled"
abbrev c7_ : String := "SIOOBE_FORMATTER"
abbrev c8_ : String := "COMPACT_STRINGS"
abbrev c9_ : String := "HI_BYTE_SHIFT"
abbrev c10_ : String := "LO_BYTE_SHIFT"
abbrev c11_ : String := "com/example/detangle/detangle/TestList"
abbrev c12_ : String := "java/util/Arrays"
abbrev c13_ : String := "(IIILjava/util/function/BiFunction;)I"
abbrev c14_ : String := "java/lang/Math"
abbrev c15_ : String := "([BII)Ljava/lang/String;"
abbrev c16_ : String := "(II)Ljava/lang/String;"
abbrev c17_ : String := "(Ljava/lang/Object;ILjava/lang/Object;II)V"
abbrev c18_ : String := "checkBoundsBeginEnd"
abbrev c19_ : String := "(I)Ljava/lang/String;"
abbrev c20_ : String := "(Ljava/lang/String;)Ljava/lang/String;"
abbrev c21_ : String := "(IILjava/util/function/BiFunction;)I"
abbrev c22_ : String := "checkBoundsOffCount"
abbrev c23_ : String := "substring"
abbrev c24_ : String := "checkIndex"
abbrev mn0 : MethodName := ⟨"java/lang/StringUTF16", "getChar", "([BI)C"⟩
abbrev mn1 : MethodName := ⟨"java/lang/StringUTF16", "putChar", "([BII)V"⟩
abbrev mn2 : MethodName := ⟨"java/lang/String", "coder", "()B"⟩
abbrev mn3 : MethodName := ⟨"java/lang/String", "length", "()I"⟩
abbrev mn4 : MethodName := ⟨"java/lang/String", "isLatin1", "()Z"⟩
abbrev mn5 : MethodName := ⟨"java/lang/Math", "max", "(II)I"⟩
abbrev mn6 : MethodName := ⟨"java/lang/Math", "min", "(II)I"⟩
abbrev mn7 : MethodName := ⟨"jdk/internal/util/Preconditions", "checkFromToIndex", "(IIILjava/util/function/BiFunction;)I"⟩
abbrev mn8 : MethodName := ⟨"java/lang/String", "checkBoundsBeginEnd", "(III)V"⟩
abbrev mn9 : MethodName := ⟨"java/lang/StringUTF16", "length", "([B)I"⟩
abbrev mn10 : MethodName := ⟨"java/lang/StringUTF16", "checkBoundsBeginEnd", "(II[B)V"⟩
abbrev mn11 : MethodName := ⟨"jdk/internal/util/Preconditions", "checkFromIndexSize", "(IIILjava/util/function/BiFunction;)I"⟩
abbrev mn12 : MethodName := ⟨"java/lang/String", "checkBoundsOffCount", "(III)I"⟩
abbrev mn13 : MethodName := ⟨"java/lang/StringUTF16", "checkBoundsOffCount", "(II[B)V"⟩
abbrev mn14 : MethodName := ⟨"java/lang/StringUTF16", "coderFromArrayLen", "([BI)B"⟩
abbrev mn15 : MethodName := ⟨"java/lang/StringUTF16", "newBytesLength", "(I)I"⟩
abbrev mn16 : MethodName := ⟨"java/lang/StringUTF16", "newBytesFor", "(I)[B"⟩
abbrev mn17 : MethodName := ⟨"java/lang/StringUTF16", "toBytes", "([CII)[B"⟩
abbrev mn18 : MethodName := ⟨"java/lang/StringUTF16", "compress", "([CI[BII)I"⟩
abbrev mn19 : MethodName := ⟨"java/lang/StringUTF16", "compress", "([CII)[B"⟩
abbrev mn20 : MethodName := ⟨"java/lang/String", "<init>", "([CIILjava/lang/Void;)V"⟩
abbrev mn21 : MethodName := ⟨"java/lang/String", "<init>", "([C)V"⟩
abbrev mn22 : MethodName := ⟨"java/lang/StringLatin1", "canEncode", "(I)Z"⟩
abbrev mn23 : MethodName := ⟨"java/lang/StringLatin1", "indexOfChar", "([BIII)I"⟩
abbrev mn24 : MethodName := ⟨"java/lang/StringUTF16", "indexOfCharUnsafe", "([BIII)I"⟩
abbrev mn25 : MethodName := ⟨"java/lang/StringLatin1", "indexOf", "([BIII)I"⟩
abbrev mn26 : MethodName := ⟨"java/lang/StringUTF16", "indexOfChar", "([BIII)I"⟩
abbrev mn27 : MethodName := ⟨"java/lang/StringUTF16", "indexOf", "([BIII)I"⟩
abbrev mn28 : MethodName := ⟨"java/lang/String", "indexOf", "(II)I"⟩
abbrev mn29 : MethodName := ⟨"java/lang/String", "indexOf", "(I)I"⟩
abbrev mn30 : MethodName := ⟨"java/util/Arrays", "checkLength", "(II)V"⟩
abbrev mn31 : MethodName := ⟨"java/util/Arrays", "copyOfRangeByte", "([BII)[B"⟩
abbrev mn32 : MethodName := ⟨"java/util/Arrays", "copyOfRange", "([BII)[B"⟩
abbrev mn33 : MethodName := ⟨"java/lang/String", "<init>", "([BB)V"⟩
abbrev mn34 : MethodName := ⟨"java/lang/StringLatin1", "newString", "([BII)Ljava/lang/String;"⟩
abbrev mn35 : MethodName := ⟨"java/lang/StringUTF16", "compress", "([BI[BII)I"⟩
abbrev mn36 : MethodName := ⟨"java/lang/StringUTF16", "compress", "([BII)[B"⟩
abbrev mn37 : MethodName := ⟨"java/lang/StringUTF16", "newString", "([BII)Ljava/lang/String;"⟩
abbrev mn38 : MethodName := ⟨"java/lang/String", "substring", "(II)Ljava/lang/String;"⟩
abbrev mn39 : MethodName := ⟨"java/lang/String", "substring", "(I)Ljava/lang/String;"⟩
abbrev mn40 : MethodName := ⟨"jdk/internal/util/Preconditions", "checkIndex", "(IILjava/util/function/BiFunction;)I"⟩
abbrev mn41 : MethodName := ⟨"java/lang/String", "checkIndex", "(II)V"⟩
abbrev mn42 : MethodName := ⟨"java/lang/StringLatin1", "charAt", "([BI)C"⟩
abbrev mn43 : MethodName := ⟨"java/lang/StringUTF16", "checkIndex", "(I[B)V"⟩
abbrev mn44 : MethodName := ⟨"java/lang/StringUTF16", "charAt", "([BI)C"⟩
abbrev mn45 : MethodName := ⟨"java/lang/String", "charAt", "(I)C"⟩
abbrev mn46 : MethodName := ⟨"com/example/detangle/detangle/TestListCaseNamePinLaw", "draw", "(I)C"⟩
abbrev mn47 : MethodName := ⟨"com/example/detangle/detangle/TestListCaseNamePinLaw", "make", "([CI)Ljava/lang/String;"⟩
abbrev mn48 : MethodName := ⟨"com/example/detangle/detangle/TestListCaseNamePinLaw", "firstHash", "([CI)I"⟩
abbrev mn49 : MethodName := ⟨"com/example/detangle/detangle/TestListCaseNamePinLaw", "same", "(Ljava/lang/String;[CII)Z"⟩
abbrev mn50 : MethodName := ⟨"com/example/detangle/detangle/TestList", "caseName", "(Ljava/lang/String;)Ljava/lang/String;"⟩
section
variable {a0 : Array Value} {Z : State}
theorem wd0 (hw : HW a0 Z) : (Cond.constant c2_ 7 (2147483647 : Int32)).before a0 Z = true := hw _ (gm 0 rfl)
theorem wd1 (hw : HW a0 Z) : (Cond.arrayClass FieldType.char).before a0 Z = true := hw _ (gm 1 rfl)
theorem wd2 (hw : HW a0 Z) : (Cond.methodLink c2_ 8 ({ cls := c2_, name := "draw", desc := "(I)C" } : Jvm.MethodName)).before a0 Z = true := hw _ (gm 2 rfl)
theorem wd3 (hw : HW a0 Z) : (Cond.static ({ cls := c2_, name := "draw", desc := "(I)C" } : Jvm.MethodName)).before a0 Z = true := hw _ (gm 3 rfl)
theorem wd4 (hw : HW a0 Z) : (Cond.initialized c2_).before a0 Z = true := hw _ (gm 4 rfl)
theorem wd5 (hw : HW a0 Z) : (Cond.code ({ cls := c2_, name := "draw", desc := "(I)C" } : Jvm.MethodName) method_3_code 1 (Option.some FieldType.char)).before a0 Z = true := hw _ (gm 5 rfl)
theorem wd6 (hw : HW a0 Z) : (Cond.methodLink c2_ 14 ({ cls := c2_, name := "make", desc := "([CI)Ljava/lang/String;" } : Jvm.MethodName)).before a0 Z = true := hw _ (gm 6 rfl)
theorem wd7 (hw : HW a0 Z) : (Cond.static ({ cls := c2_, name := "make", desc := "([CI)Ljava/lang/String;" } : Jvm.MethodName)).before a0 Z = true := hw _ (gm 7 rfl)
theorem wd8 (hw : HW a0 Z) : (Cond.code ({ cls := c2_, name := "make", desc := "([CI)Ljava/lang/String;" } : Jvm.MethodName) method_4_code 2 (Option.some (FieldType.object c0_))).before a0 Z = true := hw _ (gm 8 rfl)
theorem wd9 (hw : HW a0 Z) : (Cond.classLink c2_ 33 c0_).before a0 Z = true := hw _ (gm 9 rfl)
theorem wd10 (hw : HW a0 Z) : (Cond.instantiable c0_ 4).before a0 Z = true := hw _ (gm 10 rfl)
theorem wd11 (hw : HW a0 Z) : (Cond.initialized c0_).before a0 Z = true := hw _ (gm 11 rfl)
theorem wd12 (hw : HW a0 Z) : (Cond.methodLink c2_ 35 ({ cls := c0_, name := "<init>", desc := "([C)V" } : Jvm.MethodName)).before a0 Z = true := hw _ (gm 12 rfl)
theorem wd13 (hw : HW a0 Z) : (Cond.instanceMethod ({ cls := c0_, name := "<init>", desc := "([C)V" } : Jvm.MethodName)).before a0 Z = true := hw _ (gm 13 rfl)
theorem wd14 (hw : HW a0 Z) : (Cond.code ({ cls := c0_, name := "<init>", desc := "([C)V" } : Jvm.MethodName) jdk_42_method_3_code 2 (Option.none : Option Jvm.ClassFile.FieldType)).before a0 Z = true := hw _ (gm 14 rfl)
theorem wd15 (hw : HW a0 Z) : (Cond.methodLink c0_ 27 ({ cls := c0_, name := "<init>", desc := "([CIILjava/lang/Void;)V" } : Jvm.MethodName)).before a0 Z = true := hw _ (gm 15 rfl)
theorem wd16 (hw : HW a0 Z) : (Cond.instanceMethod ({ cls := c0_, name := "<init>", desc := "([CIILjava/lang/Void;)V" } : Jvm.MethodName)).before a0 Z = true := hw _ (gm 16 rfl)
theorem wd18 (hw : HW a0 Z) : (Cond.code ({ cls := c0_, name := "<init>", desc := "([CIILjava/lang/Void;)V" } : Jvm.MethodName) jdk_42_method_149_code 6 (Option.none : Option Jvm.ClassFile.FieldType)).before a0 Z = true := hw _ (gm 18 rfl)
theorem wd19 (hw : HW a0 Z) : (Cond.methodLink c0_ 1 ({ cls := "java/lang/Object", name := "<init>", desc := "()V" } : Jvm.MethodName)).before a0 Z = true := hw _ (gm 19 rfl)
theorem wd20 (hw : HW a0 Z) : (Cond.instanceMethod ({ cls := "java/lang/Object", name := "<init>", desc := "()V" } : Jvm.MethodName)).before a0 Z = true := hw _ (gm 20 rfl)
theorem wd21 (hw : HW a0 Z) : (Cond.code ({ cls := "java/lang/Object", name := "<init>", desc := "()V" } : Jvm.MethodName) object_method_1_code 1 (Option.none : Option Jvm.ClassFile.FieldType)).before a0 Z = true := hw _ (gm 21 rfl)
theorem wd22 (hw : HW a0 Z) : (Cond.stringLink c0_ 7 "").before a0 Z = true := hw _ (gm 22 rfl)
theorem wd23 (hw : HW a0 Z) : (Cond.arrayClass FieldType.byte).before a0 Z = true := hw _ (gm 23 rfl)
theorem wd24 (hw : HW a0 Z) : (Cond.laysFinal c0_ c0_ "value" "[B").before a0 Z = true := hw _ (gm 24 rfl)
theorem wd25 (hw : HW a0 Z) : (Cond.laysFinal c0_ c0_ "coder" "B").before a0 Z = true := hw _ (gm 25 rfl)
theorem wd28 (hw : HW a0 Z) : (Cond.fieldLink c0_ 9 c0_ "value" "[B").before a0 Z = true := hw _ (gm 28 rfl)
theorem wd29 (hw : HW a0 Z) : (Cond.fieldLink c0_ 15 c0_ "coder" "B").before a0 Z = true := hw _ (gm 29 rfl)
theorem wd30 (hw : HW a0 Z) : (Cond.methodLink c2_ 18 ({ cls := c11_, name := "caseName", desc := c20_ } : Jvm.MethodName)).before a0 Z = true := hw _ (gm 30 rfl)
theorem wd31 (hw : HW a0 Z) : (Cond.static ({ cls := c11_, name := "caseName", desc := c20_ } : Jvm.MethodName)).before a0 Z = true := hw _ (gm 31 rfl)
theorem wd32 (hw : HW a0 Z) : (Cond.initialized c11_).before a0 Z = true := hw _ (gm 32 rfl)
theorem wd33 (hw : HW a0 Z) : (Cond.code ({ cls := c11_, name := "caseName", desc := c20_ } : Jvm.MethodName) prog_57_method_4_code 2 (Option.some (FieldType.object c0_))).before a0 Z = true := hw _ (gm 33 rfl)
theorem wd34 (hw : HW a0 Z) : (Cond.methodLink c11_ 46 ({ cls := c0_, name := "indexOf", desc := "(I)I" } : Jvm.MethodName)).before a0 Z = true := hw _ (gm 34 rfl)
theorem wd35 (hw : HW a0 Z) : (Cond.declares ({ cls := c0_, name := "indexOf", desc := "(I)I" } : Jvm.MethodName)).before a0 Z = true := hw _ (gm 35 rfl)
theorem wd36 (hw : HW a0 Z) : (Cond.instanceMethod ({ cls := c0_, name := "indexOf", desc := "(I)I" } : Jvm.MethodName)).before a0 Z = true := hw _ (gm 36 rfl)
theorem wd37 (hw : HW a0 Z) : (Cond.selects c0_ ({ cls := c0_, name := "indexOf", desc := "(I)I" } : Jvm.MethodName) ({ cls := c0_, name := "indexOf", desc := "(I)I" } : Jvm.MethodName)).before a0 Z = true := hw _ (gm 37 rfl)
theorem wd38 (hw : HW a0 Z) : (Cond.code ({ cls := c0_, name := "indexOf", desc := "(I)I" } : Jvm.MethodName) jdk_42_method_79_code 2 (Option.some FieldType.int)).before a0 Z = true := hw _ (gm 38 rfl)
theorem wd39 (hw : HW a0 Z) : (Cond.methodLink c0_ 633 ({ cls := c0_, name := "indexOf", desc := "(II)I" } : Jvm.MethodName)).before a0 Z = true := hw _ (gm 39 rfl)
theorem wd40 (hw : HW a0 Z) : (Cond.declares ({ cls := c0_, name := "indexOf", desc := "(II)I" } : Jvm.MethodName)).before a0 Z = true := hw _ (gm 40 rfl)
theorem wd41 (hw : HW a0 Z) : (Cond.instanceMethod ({ cls := c0_, name := "indexOf", desc := "(II)I" } : Jvm.MethodName)).before a0 Z = true := hw _ (gm 41 rfl)
theorem wd42 (hw : HW a0 Z) : (Cond.selects c0_ ({ cls := c0_, name := "indexOf", desc := "(II)I" } : Jvm.MethodName) ({ cls := c0_, name := "indexOf", desc := "(II)I" } : Jvm.MethodName)).before a0 Z = true := hw _ (gm 42 rfl)
theorem wd43 (hw : HW a0 Z) : (Cond.code ({ cls := c0_, name := "indexOf", desc := "(II)I" } : Jvm.MethodName) jdk_42_method_80_code 3 (Option.some FieldType.int)).before a0 Z = true := hw _ (gm 43 rfl)
theorem wd44 (hw : HW a0 Z) : (Cond.methodLink c0_ 492 ({ cls := c0_, name := "isLatin1", desc := "()Z" } : Jvm.MethodName)).before a0 Z = true := hw _ (gm 44 rfl)
theorem wd45 (hw : HW a0 Z) : (Cond.declares ({ cls := c0_, name := "isLatin1", desc := "()Z" } : Jvm.MethodName)).before a0 Z = true := hw _ (gm 45 rfl)
theorem wd46 (hw : HW a0 Z) : (Cond.instanceMethod ({ cls := c0_, name := "isLatin1", desc := "()Z" } : Jvm.MethodName)).before a0 Z = true := hw _ (gm 46 rfl)
theorem wd47 (hw : HW a0 Z) : (Cond.selects c0_ ({ cls := c0_, name := "isLatin1", desc := "()Z" } : Jvm.MethodName) ({ cls := c0_, name := "isLatin1", desc := "()Z" } : Jvm.MethodName)).before a0 Z = true := hw _ (gm 47 rfl)
theorem wd48 (hw : HW a0 Z) : (Cond.code ({ cls := c0_, name := "isLatin1", desc := "()Z" } : Jvm.MethodName) jdk_42_method_154_code 1 (Option.some FieldType.boolean)).before a0 Z = true := hw _ (gm 48 rfl)
theorem wd49 (hw : HW a0 Z) : (Cond.fieldLink c0_ 38 c0_ c8_ "Z").before a0 Z = true := hw _ (gm 49 rfl)
theorem wd50 (hw : HW a0 Z) : (Cond.methodLink c0_ 505 ({ cls := c0_, name := "length", desc := "()I" } : Jvm.MethodName)).before a0 Z = true := hw _ (gm 50 rfl)
theorem wd51 (hw : HW a0 Z) : (Cond.declares ({ cls := c0_, name := "length", desc := "()I" } : Jvm.MethodName)).before a0 Z = true := hw _ (gm 51 rfl)
theorem wd52 (hw : HW a0 Z) : (Cond.instanceMethod ({ cls := c0_, name := "length", desc := "()I" } : Jvm.MethodName)).before a0 Z = true := hw _ (gm 52 rfl)
theorem wd53 (hw : HW a0 Z) : (Cond.selects c0_ ({ cls := c0_, name := "length", desc := "()I" } : Jvm.MethodName) ({ cls := c0_, name := "length", desc := "()I" } : Jvm.MethodName)).before a0 Z = true := hw _ (gm 53 rfl)
theorem wd54 (hw : HW a0 Z) : (Cond.code ({ cls := c0_, name := "length", desc := "()I" } : Jvm.MethodName) jdk_42_method_54_code 1 (Option.some FieldType.int)).before a0 Z = true := hw _ (gm 54 rfl)
theorem wd55 (hw : HW a0 Z) : (Cond.methodLink c0_ 335 ({ cls := c0_, name := "coder", desc := "()B" } : Jvm.MethodName)).before a0 Z = true := hw _ (gm 55 rfl)
theorem wd56 (hw : HW a0 Z) : (Cond.declares ({ cls := c0_, name := "coder", desc := "()B" } : Jvm.MethodName)).before a0 Z = true := hw _ (gm 56 rfl)
theorem wd57 (hw : HW a0 Z) : (Cond.instanceMethod ({ cls := c0_, name := "coder", desc := "()B" } : Jvm.MethodName)).before a0 Z = true := hw _ (gm 57 rfl)
theorem wd58 (hw : HW a0 Z) : (Cond.selects c0_ ({ cls := c0_, name := "coder", desc := "()B" } : Jvm.MethodName) ({ cls := c0_, name := "coder", desc := "()B" } : Jvm.MethodName)).before a0 Z = true := hw _ (gm 58 rfl)
theorem wd59 (hw : HW a0 Z) : (Cond.code ({ cls := c0_, name := "coder", desc := "()B" } : Jvm.MethodName) jdk_42_method_152_code 1 (Option.some FieldType.byte)).before a0 Z = true := hw _ (gm 59 rfl)
theorem wd60 (hw : HW a0 Z) : (Cond.methodLink c0_ 637 ({ cls := c5_, name := "indexOf", desc := "([BIII)I" } : Jvm.MethodName)).before a0 Z = true := hw _ (gm 60 rfl)
theorem wd61 (hw : HW a0 Z) : (Cond.static ({ cls := c5_, name := "indexOf", desc := "([BIII)I" } : Jvm.MethodName)).before a0 Z = true := hw _ (gm 61 rfl)
theorem wd62 (hw : HW a0 Z) : (Cond.initialized c5_).before a0 Z = true := hw _ (gm 62 rfl)
theorem wd63 (hw : HW a0 Z) : (Cond.code ({ cls := c5_, name := "indexOf", desc := "([BIII)I" } : Jvm.MethodName) jdk_43_method_22_code 4 (Option.some FieldType.int)).before a0 Z = true := hw _ (gm 63 rfl)
theorem wd64 (hw : HW a0 Z) : (Cond.methodLink c5_ 88 ({ cls := c5_, name := "canEncode", desc := "(I)Z" } : Jvm.MethodName)).before a0 Z = true := hw _ (gm 64 rfl)
theorem wd65 (hw : HW a0 Z) : (Cond.static ({ cls := c5_, name := "canEncode", desc := "(I)Z" } : Jvm.MethodName)).before a0 Z = true := hw _ (gm 65 rfl)
theorem wd66 (hw : HW a0 Z) : (Cond.code ({ cls := c5_, name := "canEncode", desc := "(I)Z" } : Jvm.MethodName) jdk_43_method_4_code 1 (Option.some FieldType.boolean)).before a0 Z = true := hw _ (gm 66 rfl)
theorem wd67 (hw : HW a0 Z) : (Cond.methodLink c5_ 92 ({ cls := c14_, name := "max", desc := "(II)I" } : Jvm.MethodName)).before a0 Z = true := hw _ (gm 67 rfl)
theorem wd68 (hw : HW a0 Z) : (Cond.static ({ cls := c14_, name := "max", desc := "(II)I" } : Jvm.MethodName)).before a0 Z = true := hw _ (gm 68 rfl)
theorem wd69 (hw : HW a0 Z) : (Cond.initialized c14_).before a0 Z = true := hw _ (gm 69 rfl)
theorem wd70 (hw : HW a0 Z) : (Cond.code ({ cls := c14_, name := "max", desc := "(II)I" } : Jvm.MethodName) jdk_29_method_65_code 2 (Option.some FieldType.int)).before a0 Z = true := hw _ (gm 70 rfl)
theorem wd71 (hw : HW a0 Z) : (Cond.methodLink c5_ 38 ({ cls := c14_, name := "min", desc := "(II)I" } : Jvm.MethodName)).before a0 Z = true := hw _ (gm 71 rfl)
theorem wd72 (hw : HW a0 Z) : (Cond.static ({ cls := c14_, name := "min", desc := "(II)I" } : Jvm.MethodName)).before a0 Z = true := hw _ (gm 72 rfl)
theorem wd73 (hw : HW a0 Z) : (Cond.code ({ cls := c14_, name := "min", desc := "(II)I" } : Jvm.MethodName) jdk_29_method_69_code 2 (Option.some FieldType.int)).before a0 Z = true := hw _ (gm 73 rfl)
theorem wd74 (hw : HW a0 Z) : (Cond.methodLink c2_ 24 ({ cls := c2_, name := "firstHash", desc := "([CI)I" } : Jvm.MethodName)).before a0 Z = true := hw _ (gm 74 rfl)
theorem wd75 (hw : HW a0 Z) : (Cond.static ({ cls := c2_, name := "firstHash", desc := "([CI)I" } : Jvm.MethodName)).before a0 Z = true := hw _ (gm 75 rfl)
theorem wd76 (hw : HW a0 Z) : (Cond.code ({ cls := c2_, name := "firstHash", desc := "([CI)I" } : Jvm.MethodName) method_5_code 2 (Option.some FieldType.int)).before a0 Z = true := hw _ (gm 76 rfl)
theorem wd77 (hw : HW a0 Z) : (Cond.methodLink c2_ 28 ({ cls := c2_, name := "same", desc := "(Ljava/lang/String;[CII)Z" } : Jvm.MethodName)).before a0 Z = true := hw _ (gm 77 rfl)
theorem wd78 (hw : HW a0 Z) : (Cond.static ({ cls := c2_, name := "same", desc := "(Ljava/lang/String;[CII)Z" } : Jvm.MethodName)).before a0 Z = true := hw _ (gm 78 rfl)
theorem wd79 (hw : HW a0 Z) : (Cond.code ({ cls := c2_, name := "same", desc := "(Ljava/lang/String;[CII)Z" } : Jvm.MethodName) method_6_code 5 (Option.some FieldType.boolean)).before a0 Z = true := hw _ (gm 79 rfl)
theorem wd80 (hw : HW a0 Z) : (Cond.methodLink c2_ 38 ({ cls := c0_, name := "length", desc := "()I" } : Jvm.MethodName)).before a0 Z = true := hw _ (gm 80 rfl)
theorem wd81 (hw : HW a0 Z) : (Cond.methodLink c0_ 177 ({ cls := c1_, name := "compress", desc := "([CII)[B" } : Jvm.MethodName)).before a0 Z = true := hw _ (gm 81 rfl)
theorem wd82 (hw : HW a0 Z) : (Cond.static ({ cls := c1_, name := "compress", desc := "([CII)[B" } : Jvm.MethodName)).before a0 Z = true := hw _ (gm 82 rfl)
theorem wd83 (hw : HW a0 Z) : (Cond.initialized c1_).before a0 Z = true := hw _ (gm 83 rfl)
theorem wd84 (hw : HW a0 Z) : (Cond.code ({ cls := c1_, name := "compress", desc := "([CII)[B" } : Jvm.MethodName) jdk_52_method_16_code 6 (Option.some (FieldType.array FieldType.byte))).before a0 Z = true := hw _ (gm 84 rfl)
theorem wd85 (hw : HW a0 Z) : (Cond.methodLink c1_ 115 ({ cls := c1_, name := "compress", desc := "([CI[BII)I" } : Jvm.MethodName)).before a0 Z = true := hw _ (gm 85 rfl)
theorem wd86 (hw : HW a0 Z) : (Cond.static ({ cls := c1_, name := "compress", desc := "([CI[BII)I" } : Jvm.MethodName)).before a0 Z = true := hw _ (gm 86 rfl)
theorem wd87 (hw : HW a0 Z) : (Cond.code ({ cls := c1_, name := "compress", desc := "([CI[BII)I" } : Jvm.MethodName) jdk_52_method_21_code 7 (Option.some FieldType.int)).before a0 Z = true := hw _ (gm 87 rfl)
theorem wd88 (hw : HW a0 Z) : (Cond.methodLink c0_ 47 ({ cls := c1_, name := "coderFromArrayLen", desc := "([BI)B" } : Jvm.MethodName)).before a0 Z = true := hw _ (gm 88 rfl)
theorem wd89 (hw : HW a0 Z) : (Cond.static ({ cls := c1_, name := "coderFromArrayLen", desc := "([BI)B" } : Jvm.MethodName)).before a0 Z = true := hw _ (gm 89 rfl)
theorem wd90 (hw : HW a0 Z) : (Cond.code ({ cls := c1_, name := "coderFromArrayLen", desc := "([BI)B" } : Jvm.MethodName) jdk_52_method_15_code 2 (Option.some FieldType.byte)).before a0 Z = true := hw _ (gm 90 rfl)
theorem wd91 (hw : HW a0 Z) : (Cond.methodLink c5_ 95 ({ cls := c5_, name := "indexOfChar", desc := "([BIII)I" } : Jvm.MethodName)).before a0 Z = true := hw _ (gm 91 rfl)
theorem wd92 (hw : HW a0 Z) : (Cond.static ({ cls := c5_, name := "indexOfChar", desc := "([BIII)I" } : Jvm.MethodName)).before a0 Z = true := hw _ (gm 92 rfl)
theorem wd93 (hw : HW a0 Z) : (Cond.code ({ cls := c5_, name := "indexOfChar", desc := "([BIII)I" } : Jvm.MethodName) jdk_43_method_23_code 6 (Option.some FieldType.int)).before a0 Z = true := hw _ (gm 93 rfl)
theorem wd94 (hw : HW a0 Z) : (Cond.methodLink c11_ 56 ({ cls := c0_, name := c23_, desc := c19_ } : Jvm.MethodName)).before a0 Z = true := hw _ (gm 94 rfl)
theorem wd95 (hw : HW a0 Z) : (Cond.declares ({ cls := c0_, name := c23_, desc := c19_ } : Jvm.MethodName)).before a0 Z = true := hw _ (gm 95 rfl)
theorem wd96 (hw : HW a0 Z) : (Cond.instanceMethod ({ cls := c0_, name := c23_, desc := c19_ } : Jvm.MethodName)).before a0 Z = true := hw _ (gm 96 rfl)
theorem wd97 (hw : HW a0 Z) : (Cond.selects c0_ ({ cls := c0_, name := c23_, desc := c19_ } : Jvm.MethodName) ({ cls := c0_, name := c23_, desc := c19_ } : Jvm.MethodName)).before a0 Z = true := hw _ (gm 97 rfl)
theorem wd98 (hw : HW a0 Z) : (Cond.code ({ cls := c0_, name := c23_, desc := c19_ } : Jvm.MethodName) jdk_42_method_91_code 2 (Option.some (FieldType.object c0_))).before a0 Z = true := hw _ (gm 98 rfl)
theorem wd99 (hw : HW a0 Z) : (Cond.methodLink c0_ 681 ({ cls := c0_, name := c23_, desc := c16_ } : Jvm.MethodName)).before a0 Z = true := hw _ (gm 99 rfl)
theorem wd100 (hw : HW a0 Z) : (Cond.declares ({ cls := c0_, name := c23_, desc := c16_ } : Jvm.MethodName)).before a0 Z = true := hw _ (gm 100 rfl)
theorem wd101 (hw : HW a0 Z) : (Cond.instanceMethod ({ cls := c0_, name := c23_, desc := c16_ } : Jvm.MethodName)).before a0 Z = true := hw _ (gm 101 rfl)
theorem wd102 (hw : HW a0 Z) : (Cond.selects c0_ ({ cls := c0_, name := c23_, desc := c16_ } : Jvm.MethodName) ({ cls := c0_, name := c23_, desc := c16_ } : Jvm.MethodName)).before a0 Z = true := hw _ (gm 102 rfl)
theorem wd103 (hw : HW a0 Z) : (Cond.code ({ cls := c0_, name := c23_, desc := c16_ } : Jvm.MethodName) jdk_42_method_92_code 5 (Option.some (FieldType.object c0_))).before a0 Z = true := hw _ (gm 103 rfl)
theorem wd104 (hw : HW a0 Z) : (Cond.methodLink c0_ 521 ({ cls := c0_, name := c18_, desc := "(III)V" } : Jvm.MethodName)).before a0 Z = true := hw _ (gm 104 rfl)
theorem wd105 (hw : HW a0 Z) : (Cond.static ({ cls := c0_, name := c18_, desc := "(III)V" } : Jvm.MethodName)).before a0 Z = true := hw _ (gm 105 rfl)
theorem wd106 (hw : HW a0 Z) : (Cond.code ({ cls := c0_, name := c18_, desc := "(III)V" } : Jvm.MethodName) jdk_42_method_158_code 3 (Option.none : Option Jvm.ClassFile.FieldType)).before a0 Z = true := hw _ (gm 106 rfl)
theorem wd107 (hw : HW a0 Z) : (Cond.fieldLink c0_ 1053 c3_ c7_ c4_).before a0 Z = true := hw _ (gm 107 rfl)
theorem wd108 (hw : HW a0 Z) : (Cond.initialized c3_).before a0 Z = true := hw _ (gm 108 rfl)
theorem wd109 (hw : HW a0 Z) : (Cond.methodLink c0_ 1062 ({ cls := c3_, name := "checkFromToIndex", desc := c13_ } : Jvm.MethodName)).before a0 Z = true := hw _ (gm 109 rfl)
theorem wd110 (hw : HW a0 Z) : (Cond.static ({ cls := c3_, name := "checkFromToIndex", desc := c13_ } : Jvm.MethodName)).before a0 Z = true := hw _ (gm 110 rfl)
theorem wd111 (hw : HW a0 Z) : (Cond.code ({ cls := c3_, name := "checkFromToIndex", desc := c13_ } : Jvm.MethodName) jdk_41_method_12_code 4 (Option.some FieldType.int)).before a0 Z = true := hw _ (gm 111 rfl)
theorem wd112 (hw : HW a0 Z) : (Cond.methodLink c0_ 685 ({ cls := c5_, name := "newString", desc := c15_ } : Jvm.MethodName)).before a0 Z = true := hw _ (gm 112 rfl)
theorem wd113 (hw : HW a0 Z) : (Cond.static ({ cls := c5_, name := "newString", desc := c15_ } : Jvm.MethodName)).before a0 Z = true := hw _ (gm 113 rfl)
theorem wd114 (hw : HW a0 Z) : (Cond.code ({ cls := c5_, name := "newString", desc := c15_ } : Jvm.MethodName) jdk_43_method_47_code 3 (Option.some (FieldType.object c0_))).before a0 Z = true := hw _ (gm 114 rfl)
theorem wd115 (hw : HW a0 Z) : (Cond.classLink c5_ 1 c0_).before a0 Z = true := hw _ (gm 115 rfl)
theorem wd116 (hw : HW a0 Z) : (Cond.methodLink c5_ 232 ({ cls := c12_, name := "copyOfRange", desc := "([BII)[B" } : Jvm.MethodName)).before a0 Z = true := hw _ (gm 116 rfl)
theorem wd117 (hw : HW a0 Z) : (Cond.static ({ cls := c12_, name := "copyOfRange", desc := "([BII)[B" } : Jvm.MethodName)).before a0 Z = true := hw _ (gm 117 rfl)
theorem wd118 (hw : HW a0 Z) : (Cond.initialized c12_).before a0 Z = true := hw _ (gm 118 rfl)
theorem wd119 (hw : HW a0 Z) : (Cond.code ({ cls := c12_, name := "copyOfRange", desc := "([BII)[B" } : Jvm.MethodName) jdk_65_method_132_code 3 (Option.some (FieldType.array FieldType.byte))).before a0 Z = true := hw _ (gm 119 rfl)
theorem wd120 (hw : HW a0 Z) : (Cond.methodLink c12_ 339 ({ cls := c12_, name := "copyOfRangeByte", desc := "([BII)[B" } : Jvm.MethodName)).before a0 Z = true := hw _ (gm 120 rfl)
theorem wd121 (hw : HW a0 Z) : (Cond.static ({ cls := c12_, name := "copyOfRangeByte", desc := "([BII)[B" } : Jvm.MethodName)).before a0 Z = true := hw _ (gm 121 rfl)
theorem wd122 (hw : HW a0 Z) : (Cond.code ({ cls := c12_, name := "copyOfRangeByte", desc := "([BII)[B" } : Jvm.MethodName) jdk_65_method_133_code 5 (Option.some (FieldType.array FieldType.byte))).before a0 Z = true := hw _ (gm 122 rfl)
theorem wd123 (hw : HW a0 Z) : (Cond.methodLink c12_ 343 ({ cls := c12_, name := "checkLength", desc := "(II)V" } : Jvm.MethodName)).before a0 Z = true := hw _ (gm 123 rfl)
theorem wd124 (hw : HW a0 Z) : (Cond.static ({ cls := c12_, name := "checkLength", desc := "(II)V" } : Jvm.MethodName)).before a0 Z = true := hw _ (gm 124 rfl)
theorem wd125 (hw : HW a0 Z) : (Cond.code ({ cls := c12_, name := "checkLength", desc := "(II)V" } : Jvm.MethodName) jdk_65_method_131_code 2 (Option.none : Option Jvm.ClassFile.FieldType)).before a0 Z = true := hw _ (gm 125 rfl)
theorem wd126 (hw : HW a0 Z) : (Cond.methodLink c12_ 304 ({ cls := c14_, name := "min", desc := "(II)I" } : Jvm.MethodName)).before a0 Z = true := hw _ (gm 126 rfl)
theorem wd127 (hw : HW a0 Z) : (Cond.methodLink c12_ 150 ({ cls := "java/lang/System", name := "arraycopy", desc := c17_ } : Jvm.MethodName)).before a0 Z = true := hw _ (gm 127 rfl)
theorem wd128 (hw : HW a0 Z) : (Cond.static ({ cls := "java/lang/System", name := "arraycopy", desc := c17_ } : Jvm.MethodName)).before a0 Z = true := hw _ (gm 128 rfl)
theorem wd129 (hw : HW a0 Z) : (Cond.initialized "java/lang/System").before a0 Z = true := hw _ (gm 129 rfl)
theorem wd130 (hw : HW a0 Z) : (Cond.native ({ cls := "java/lang/System", name := "arraycopy", desc := c17_ } : Jvm.MethodName)).before a0 Z = true := hw _ (gm 130 rfl)
theorem wd131 (hw : HW a0 Z) : (Cond.methodLink c5_ 112 ({ cls := c0_, name := "<init>", desc := "([BB)V" } : Jvm.MethodName)).before a0 Z = true := hw _ (gm 131 rfl)
theorem wd132 (hw : HW a0 Z) : (Cond.instanceMethod ({ cls := c0_, name := "<init>", desc := "([BB)V" } : Jvm.MethodName)).before a0 Z = true := hw _ (gm 132 rfl)
theorem wd133 (hw : HW a0 Z) : (Cond.code ({ cls := c0_, name := "<init>", desc := "([BB)V" } : Jvm.MethodName) jdk_42_method_151_code 3 (Option.none : Option Jvm.ClassFile.FieldType)).before a0 Z = true := hw _ (gm 133 rfl)
theorem wd134 (hw : HW a0 Z) : (Cond.methodLink c2_ 42 ({ cls := c0_, name := "charAt", desc := "(I)C" } : Jvm.MethodName)).before a0 Z = true := hw _ (gm 134 rfl)
theorem wd135 (hw : HW a0 Z) : (Cond.declares ({ cls := c0_, name := "charAt", desc := "(I)C" } : Jvm.MethodName)).before a0 Z = true := hw _ (gm 135 rfl)
theorem wd136 (hw : HW a0 Z) : (Cond.instanceMethod ({ cls := c0_, name := "charAt", desc := "(I)C" } : Jvm.MethodName)).before a0 Z = true := hw _ (gm 136 rfl)
theorem wd137 (hw : HW a0 Z) : (Cond.selects c0_ ({ cls := c0_, name := "charAt", desc := "(I)C" } : Jvm.MethodName) ({ cls := c0_, name := "charAt", desc := "(I)C" } : Jvm.MethodName)).before a0 Z = true := hw _ (gm 137 rfl)
theorem wd138 (hw : HW a0 Z) : (Cond.code ({ cls := c0_, name := "charAt", desc := "(I)C" } : Jvm.MethodName) jdk_42_method_56_code 2 (Option.some FieldType.char)).before a0 Z = true := hw _ (gm 138 rfl)
theorem wd139 (hw : HW a0 Z) : (Cond.methodLink c0_ 495 ({ cls := c5_, name := "charAt", desc := "([BI)C" } : Jvm.MethodName)).before a0 Z = true := hw _ (gm 139 rfl)
theorem wd140 (hw : HW a0 Z) : (Cond.static ({ cls := c5_, name := "charAt", desc := "([BI)C" } : Jvm.MethodName)).before a0 Z = true := hw _ (gm 140 rfl)
theorem wd141 (hw : HW a0 Z) : (Cond.code ({ cls := c5_, name := "charAt", desc := "([BI)C" } : Jvm.MethodName) jdk_43_method_2_code 2 (Option.some FieldType.char)).before a0 Z = true := hw _ (gm 141 rfl)
theorem wd142 (hw : HW a0 Z) : (Cond.methodLink c5_ 9 ({ cls := c0_, name := c24_, desc := "(II)V" } : Jvm.MethodName)).before a0 Z = true := hw _ (gm 142 rfl)
theorem wd143 (hw : HW a0 Z) : (Cond.static ({ cls := c0_, name := c24_, desc := "(II)V" } : Jvm.MethodName)).before a0 Z = true := hw _ (gm 143 rfl)
theorem wd144 (hw : HW a0 Z) : (Cond.code ({ cls := c0_, name := c24_, desc := "(II)V" } : Jvm.MethodName) jdk_42_method_155_code 2 (Option.none : Option Jvm.ClassFile.FieldType)).before a0 Z = true := hw _ (gm 144 rfl)
theorem wd145 (hw : HW a0 Z) : (Cond.methodLink c0_ 1059 ({ cls := c3_, name := c24_, desc := c21_ } : Jvm.MethodName)).before a0 Z = true := hw _ (gm 145 rfl)
theorem wd146 (hw : HW a0 Z) : (Cond.static ({ cls := c3_, name := c24_, desc := c21_ } : Jvm.MethodName)).before a0 Z = true := hw _ (gm 146 rfl)
theorem wd147 (hw : HW a0 Z) : (Cond.code ({ cls := c3_, name := c24_, desc := c21_ } : Jvm.MethodName) jdk_41_method_11_code 3 (Option.some FieldType.int)).before a0 Z = true := hw _ (gm 147 rfl)
theorem wd148 (hw : HW a0 Z) : (Cond.stringLink c5_ 151 "").before a0 Z = true := hw _ (gm 148 rfl)
theorem wd149 (hw : HW a0 Z) : (Cond.constant c2_ 32 (65535 : Int32)).before a0 Z = true := hw _ (gm 149 rfl)
theorem wd150 (hw : HW a0 Z) : (Cond.methodLink c1_ 119 ({ cls := c1_, name := "toBytes", desc := "([CII)[B" } : Jvm.MethodName)).before a0 Z = true := hw _ (gm 150 rfl)
theorem wd151 (hw : HW a0 Z) : (Cond.static ({ cls := c1_, name := "toBytes", desc := "([CII)[B" } : Jvm.MethodName)).before a0 Z = true := hw _ (gm 151 rfl)
theorem wd152 (hw : HW a0 Z) : (Cond.code ({ cls := c1_, name := "toBytes", desc := "([CII)[B" } : Jvm.MethodName) jdk_52_method_14_code 5 (Option.some (FieldType.array FieldType.byte))).before a0 Z = true := hw _ (gm 152 rfl)
theorem wd153 (hw : HW a0 Z) : (Cond.methodLink c1_ 107 ({ cls := c1_, name := "newBytesFor", desc := "(I)[B" } : Jvm.MethodName)).before a0 Z = true := hw _ (gm 153 rfl)
theorem wd154 (hw : HW a0 Z) : (Cond.static ({ cls := c1_, name := "newBytesFor", desc := "(I)[B" } : Jvm.MethodName)).before a0 Z = true := hw _ (gm 154 rfl)
theorem wd155 (hw : HW a0 Z) : (Cond.code ({ cls := c1_, name := "newBytesFor", desc := "(I)[B" } : Jvm.MethodName) jdk_52_method_2_code 1 (Option.some (FieldType.array FieldType.byte))).before a0 Z = true := hw _ (gm 155 rfl)
theorem wd156 (hw : HW a0 Z) : (Cond.methodLink c1_ 11 ({ cls := c1_, name := "newBytesLength", desc := "(I)I" } : Jvm.MethodName)).before a0 Z = true := hw _ (gm 156 rfl)
theorem wd157 (hw : HW a0 Z) : (Cond.static ({ cls := c1_, name := "newBytesLength", desc := "(I)I" } : Jvm.MethodName)).before a0 Z = true := hw _ (gm 157 rfl)
theorem wd158 (hw : HW a0 Z) : (Cond.code ({ cls := c1_, name := "newBytesLength", desc := "(I)I" } : Jvm.MethodName) jdk_52_method_3_code 1 (Option.some FieldType.int)).before a0 Z = true := hw _ (gm 158 rfl)
theorem wd159 (hw : HW a0 Z) : (Cond.constant c1_ 20 (1073741823 : Int32)).before a0 Z = true := hw _ (gm 159 rfl)
theorem wd160 (hw : HW a0 Z) : (Cond.methodLink c1_ 111 ({ cls := c1_, name := "putChar", desc := "([BII)V" } : Jvm.MethodName)).before a0 Z = true := hw _ (gm 160 rfl)
theorem wd161 (hw : HW a0 Z) : (Cond.static ({ cls := c1_, name := "putChar", desc := "([BII)V" } : Jvm.MethodName)).before a0 Z = true := hw _ (gm 161 rfl)
theorem wd162 (hw : HW a0 Z) : (Cond.code ({ cls := c1_, name := "putChar", desc := "([BII)V" } : Jvm.MethodName) jdk_52_method_4_code 3 (Option.none : Option Jvm.ClassFile.FieldType)).before a0 Z = true := hw _ (gm 162 rfl)
theorem wd163 (hw : HW a0 Z) : (Cond.fieldLink c1_ 44 c1_ c6_ "Z").before a0 Z = true := hw _ (gm 163 rfl)
theorem wd164 (hw : HW a0 Z) : (Cond.fieldLink c1_ 59 c1_ c9_ "I").before a0 Z = true := hw _ (gm 164 rfl)
theorem wd165 (hw : HW a0 Z) : (Cond.fieldLink c1_ 63 c1_ c10_ "I").before a0 Z = true := hw _ (gm 165 rfl)
theorem wd166 (hw : HW a0 Z) : (Cond.methodLink c1_ 71 ({ cls := c1_, name := "getChar", desc := "([BI)C" } : Jvm.MethodName)).before a0 Z = true := hw _ (gm 166 rfl)
theorem wd167 (hw : HW a0 Z) : (Cond.static ({ cls := c1_, name := "getChar", desc := "([BI)C" } : Jvm.MethodName)).before a0 Z = true := hw _ (gm 167 rfl)
theorem wd168 (hw : HW a0 Z) : (Cond.code ({ cls := c1_, name := "getChar", desc := "([BI)C" } : Jvm.MethodName) jdk_52_method_5_code 2 (Option.some FieldType.char)).before a0 Z = true := hw _ (gm 168 rfl)
theorem wd169 (hw : HW a0 Z) : (Cond.methodLink c0_ 640 ({ cls := c1_, name := "indexOf", desc := "([BIII)I" } : Jvm.MethodName)).before a0 Z = true := hw _ (gm 169 rfl)
theorem wd170 (hw : HW a0 Z) : (Cond.static ({ cls := c1_, name := "indexOf", desc := "([BIII)I" } : Jvm.MethodName)).before a0 Z = true := hw _ (gm 170 rfl)
theorem wd171 (hw : HW a0 Z) : (Cond.code ({ cls := c1_, name := "indexOf", desc := "([BIII)I" } : Jvm.MethodName) jdk_52_method_40_code 4 (Option.some FieldType.int)).before a0 Z = true := hw _ (gm 171 rfl)
theorem wd172 (hw : HW a0 Z) : (Cond.methodLink c1_ 224 ({ cls := c14_, name := "max", desc := "(II)I" } : Jvm.MethodName)).before a0 Z = true := hw _ (gm 172 rfl)
theorem wd173 (hw : HW a0 Z) : (Cond.methodLink c1_ 183 ({ cls := c14_, name := "min", desc := "(II)I" } : Jvm.MethodName)).before a0 Z = true := hw _ (gm 173 rfl)
theorem wd174 (hw : HW a0 Z) : (Cond.constant c1_ 227 (65536 : Int32)).before a0 Z = true := hw _ (gm 174 rfl)
theorem wd175 (hw : HW a0 Z) : (Cond.methodLink c1_ 228 ({ cls := c1_, name := "indexOfChar", desc := "([BIII)I" } : Jvm.MethodName)).before a0 Z = true := hw _ (gm 175 rfl)
theorem wd176 (hw : HW a0 Z) : (Cond.static ({ cls := c1_, name := "indexOfChar", desc := "([BIII)I" } : Jvm.MethodName)).before a0 Z = true := hw _ (gm 176 rfl)
theorem wd177 (hw : HW a0 Z) : (Cond.code ({ cls := c1_, name := "indexOfChar", desc := "([BIII)I" } : Jvm.MethodName) jdk_52_method_47_code 4 (Option.some FieldType.int)).before a0 Z = true := hw _ (gm 177 rfl)
theorem wd178 (hw : HW a0 Z) : (Cond.methodLink c1_ 96 ({ cls := c1_, name := c18_, desc := "(II[B)V" } : Jvm.MethodName)).before a0 Z = true := hw _ (gm 178 rfl)
theorem wd179 (hw : HW a0 Z) : (Cond.static ({ cls := c1_, name := c18_, desc := "(II[B)V" } : Jvm.MethodName)).before a0 Z = true := hw _ (gm 179 rfl)
theorem wd180 (hw : HW a0 Z) : (Cond.code ({ cls := c1_, name := c18_, desc := "(II[B)V" } : Jvm.MethodName) jdk_52_method_93_code 3 (Option.none : Option Jvm.ClassFile.FieldType)).before a0 Z = true := hw _ (gm 180 rfl)
theorem wd181 (hw : HW a0 Z) : (Cond.methodLink c1_ 48 ({ cls := c1_, name := "length", desc := "([B)I" } : Jvm.MethodName)).before a0 Z = true := hw _ (gm 181 rfl)
theorem wd182 (hw : HW a0 Z) : (Cond.static ({ cls := c1_, name := "length", desc := "([B)I" } : Jvm.MethodName)).before a0 Z = true := hw _ (gm 182 rfl)
theorem wd183 (hw : HW a0 Z) : (Cond.code ({ cls := c1_, name := "length", desc := "([B)I" } : Jvm.MethodName) jdk_52_method_6_code 1 (Option.some FieldType.int)).before a0 Z = true := hw _ (gm 183 rfl)
theorem wd184 (hw : HW a0 Z) : (Cond.methodLink c1_ 241 ({ cls := c0_, name := c18_, desc := "(III)V" } : Jvm.MethodName)).before a0 Z = true := hw _ (gm 184 rfl)
theorem wd185 (hw : HW a0 Z) : (Cond.methodLink c1_ 244 ({ cls := c1_, name := "indexOfCharUnsafe", desc := "([BIII)I" } : Jvm.MethodName)).before a0 Z = true := hw _ (gm 185 rfl)
theorem wd186 (hw : HW a0 Z) : (Cond.static ({ cls := c1_, name := "indexOfCharUnsafe", desc := "([BIII)I" } : Jvm.MethodName)).before a0 Z = true := hw _ (gm 186 rfl)
theorem wd187 (hw : HW a0 Z) : (Cond.code ({ cls := c1_, name := "indexOfCharUnsafe", desc := "([BIII)I" } : Jvm.MethodName) jdk_52_method_48_code 5 (Option.some FieldType.int)).before a0 Z = true := hw _ (gm 187 rfl)
theorem wd188 (hw : HW a0 Z) : (Cond.methodLink c0_ 689 ({ cls := c1_, name := "newString", desc := c15_ } : Jvm.MethodName)).before a0 Z = true := hw _ (gm 188 rfl)
theorem wd189 (hw : HW a0 Z) : (Cond.static ({ cls := c1_, name := "newString", desc := c15_ } : Jvm.MethodName)).before a0 Z = true := hw _ (gm 189 rfl)
theorem wd190 (hw : HW a0 Z) : (Cond.code ({ cls := c1_, name := "newString", desc := c15_ } : Jvm.MethodName) jdk_52_method_69_code 5 (Option.some (FieldType.object c0_))).before a0 Z = true := hw _ (gm 190 rfl)
theorem wd191 (hw : HW a0 Z) : (Cond.stringLink c1_ 295 "").before a0 Z = true := hw _ (gm 191 rfl)
theorem wd192 (hw : HW a0 Z) : (Cond.fieldLink c1_ 251 c0_ c8_ "Z").before a0 Z = true := hw _ (gm 192 rfl)
theorem wd193 (hw : HW a0 Z) : (Cond.methodLink c1_ 257 ({ cls := c1_, name := "compress", desc := "([BII)[B" } : Jvm.MethodName)).before a0 Z = true := hw _ (gm 193 rfl)
theorem wd194 (hw : HW a0 Z) : (Cond.static ({ cls := c1_, name := "compress", desc := "([BII)[B" } : Jvm.MethodName)).before a0 Z = true := hw _ (gm 194 rfl)
theorem wd195 (hw : HW a0 Z) : (Cond.code ({ cls := c1_, name := "compress", desc := "([BII)[B" } : Jvm.MethodName) jdk_52_method_17_code 6 (Option.some (FieldType.array FieldType.byte))).before a0 Z = true := hw _ (gm 195 rfl)
theorem wd196 (hw : HW a0 Z) : (Cond.methodLink c1_ 123 ({ cls := c1_, name := "compress", desc := "([BI[BII)I" } : Jvm.MethodName)).before a0 Z = true := hw _ (gm 196 rfl)
theorem wd197 (hw : HW a0 Z) : (Cond.static ({ cls := c1_, name := "compress", desc := "([BI[BII)I" } : Jvm.MethodName)).before a0 Z = true := hw _ (gm 197 rfl)
theorem wd198 (hw : HW a0 Z) : (Cond.code ({ cls := c1_, name := "compress", desc := "([BI[BII)I" } : Jvm.MethodName) jdk_52_method_22_code 7 (Option.some FieldType.int)).before a0 Z = true := hw _ (gm 198 rfl)
theorem wd199 (hw : HW a0 Z) : (Cond.methodLink c1_ 173 ({ cls := c1_, name := c22_, desc := "(II[B)V" } : Jvm.MethodName)).before a0 Z = true := hw _ (gm 199 rfl)
theorem wd200 (hw : HW a0 Z) : (Cond.static ({ cls := c1_, name := c22_, desc := "(II[B)V" } : Jvm.MethodName)).before a0 Z = true := hw _ (gm 200 rfl)
theorem wd201 (hw : HW a0 Z) : (Cond.code ({ cls := c1_, name := c22_, desc := "(II[B)V" } : Jvm.MethodName) jdk_52_method_94_code 3 (Option.none : Option Jvm.ClassFile.FieldType)).before a0 Z = true := hw _ (gm 201 rfl)
theorem wd202 (hw : HW a0 Z) : (Cond.methodLink c1_ 419 ({ cls := c0_, name := c22_, desc := "(III)I" } : Jvm.MethodName)).before a0 Z = true := hw _ (gm 202 rfl)
theorem wd203 (hw : HW a0 Z) : (Cond.static ({ cls := c0_, name := c22_, desc := "(III)I" } : Jvm.MethodName)).before a0 Z = true := hw _ (gm 203 rfl)
theorem wd204 (hw : HW a0 Z) : (Cond.code ({ cls := c0_, name := c22_, desc := "(III)I" } : Jvm.MethodName) jdk_42_method_157_code 3 (Option.some FieldType.int)).before a0 Z = true := hw _ (gm 204 rfl)
theorem wd205 (hw : HW a0 Z) : (Cond.methodLink c0_ 1065 ({ cls := c3_, name := "checkFromIndexSize", desc := c13_ } : Jvm.MethodName)).before a0 Z = true := hw _ (gm 205 rfl)
theorem wd206 (hw : HW a0 Z) : (Cond.static ({ cls := c3_, name := "checkFromIndexSize", desc := c13_ } : Jvm.MethodName)).before a0 Z = true := hw _ (gm 206 rfl)
theorem wd207 (hw : HW a0 Z) : (Cond.code ({ cls := c3_, name := "checkFromIndexSize", desc := c13_ } : Jvm.MethodName) jdk_41_method_13_code 4 (Option.some FieldType.int)).before a0 Z = true := hw _ (gm 207 rfl)
theorem wd208 (hw : HW a0 Z) : (Cond.methodLink c1_ 126 ({ cls := c12_, name := "copyOfRange", desc := "([BII)[B" } : Jvm.MethodName)).before a0 Z = true := hw _ (gm 208 rfl)
theorem wd209 (hw : HW a0 Z) : (Cond.methodLink c1_ 259 ({ cls := c1_, name := "coderFromArrayLen", desc := "([BI)B" } : Jvm.MethodName)).before a0 Z = true := hw _ (gm 209 rfl)
theorem wd210 (hw : HW a0 Z) : (Cond.classLink c1_ 3 c0_).before a0 Z = true := hw _ (gm 210 rfl)
theorem wd211 (hw : HW a0 Z) : (Cond.methodLink c1_ 263 ({ cls := c0_, name := "<init>", desc := "([BB)V" } : Jvm.MethodName)).before a0 Z = true := hw _ (gm 211 rfl)
theorem wd212 (hw : HW a0 Z) : (Cond.methodLink c0_ 498 ({ cls := c1_, name := "charAt", desc := "([BI)C" } : Jvm.MethodName)).before a0 Z = true := hw _ (gm 212 rfl)
theorem wd213 (hw : HW a0 Z) : (Cond.static ({ cls := c1_, name := "charAt", desc := "([BI)C" } : Jvm.MethodName)).before a0 Z = true := hw _ (gm 213 rfl)
theorem wd214 (hw : HW a0 Z) : (Cond.code ({ cls := c1_, name := "charAt", desc := "([BI)C" } : Jvm.MethodName) jdk_52_method_83_code 2 (Option.some FieldType.char)).before a0 Z = true := hw _ (gm 214 rfl)
theorem wd215 (hw : HW a0 Z) : (Cond.methodLink c1_ 67 ({ cls := c1_, name := c24_, desc := "(I[B)V" } : Jvm.MethodName)).before a0 Z = true := hw _ (gm 215 rfl)
theorem wd216 (hw : HW a0 Z) : (Cond.static ({ cls := c1_, name := c24_, desc := "(I[B)V" } : Jvm.MethodName)).before a0 Z = true := hw _ (gm 216 rfl)
theorem wd217 (hw : HW a0 Z) : (Cond.code ({ cls := c1_, name := c24_, desc := "(I[B)V" } : Jvm.MethodName) jdk_52_method_91_code 2 (Option.none : Option Jvm.ClassFile.FieldType)).before a0 Z = true := hw _ (gm 217 rfl)
theorem wd218 (hw : HW a0 Z) : (Cond.methodLink c1_ 414 ({ cls := c0_, name := c24_, desc := "(II)V" } : Jvm.MethodName)).before a0 Z = true := hw _ (gm 218 rfl)
end
variable (la : Launch) (Z : State) (a0 : Array Value)

/-! String constants: the words, the invariant -/
theorem own_safe_raw {Z : State} {EL : List (String × Nat)} {vm : Vm} {h : Heap} {x : Addr} (hal : Z.vm.Alike vm) (E : Exa Z h x c0_) (F : Fld Z h x c0_ "value" "[B" .null) : Safe Z EL vm h x := fun B => by
  obtain ⟨p, -, u, a, -, q, -, S, hx⟩ := B
  obtain ⟨cell, kc, e1, e2, -⟩ := E
  rcases hx with rfl | rfl
  · obtain ⟨cS, ⟨⟨h1, -, -, ⟨c1, k1, i1, f1, -⟩, -, -, -, v1, -⟩, -⟩, -⟩ := S
    obtain ⟨cl, cf, k, i, f, g1, g2, -, -, -, -, g7⟩ := F
    obtain ⟨k3, e3, -⟩ := State.fieldFound?_setVm (s := Z) hal g2
    have e4 := (show (Wst Z vm h).fieldFound? _ _ _ = _ from e3).symm.trans f1
    simp only [Option.some.injEq, Prod.mk.injEq] at e4
    cases g1.symm.trans h1
    rw [e4.2.2.2, v1] at g7
    simp at g7
  · have h2 := S.hd
    obtain ⟨cS, -, -, h4, -⟩ := S
    cases e1.symm.trans h2
    have h5 : Z.vm.findClass "[B" = some q.SA.cls := by rw [← hal.findClass]; exact h4
    obtain ⟨k1, a1, a2⟩ := Vm.findClass_spec e2
    obtain ⟨k2, b1, b2⟩ := Vm.findClass_spec h5
    cases a1.symm.trans b1
    exact absurd (a2.symm.trans b2) (by decide)

/-! constants that stand resolved: a callee that loads them again pays nothing -/
theorem own_restand {p : Program} {l : Launch} {e : Env} {R : Room} {s : State} {v w : Vm} {m : MethodId} {args : Array Value} {below : List Frame} {meth : Method} {c : Code} {T : State} {locs : List Loc} {cells slots : Nat} (X : Stand p l e R ((s.setVm v).setVm w) m args below meth c T locs cells slots) : Stand p l e R (s.setVm w) m args below meth c T locs cells slots := X
theorem own_backSL {p : Program} {l : Launch} {e : Env} {R : Room} {s : State} {args : Array Value} {below : List Frame} {Z : State} {a0 : Array Value} {EL : List (String × Nat)} {h : Heap} {vm0 : Vm} {y : MethodName} {bytes : ByteArray} {maxL : Nat} {ret : Option FieldType} {rm : Room} {len W : Nat} {as' : Array Value} {Q : Option Value → Heap → List Loc → Prop}
    {LP : Vm → Prop} {LQ : Vm → Heap → Prop} (hLP : ∀ {vm1 : Vm}, (s.setVm vm0).Warmed39 vm1 → LP vm1)
    (hM : MetFree l y (head1 [Cond.code y bytes maxL ret] rm) (fun a U => a = as' ∧ Z.Warmed39 U.vm ∧ U.heap = h ∧ CHv Z EL U.vm h ∧ LP U.vm) (fun _ _ _ _ _ => True) (fun _ U o U' => ∃ v L, o = .returned v ∧ Q v U'.heap L ∧ (CHr Z EL U.vm U.heap U'.vm U'.heap ∧ LQ U'.vm U'.heap) ∧ ReturnedEndW U o U' L rm.cells rm.slots))
    (hZ : Z.Warmed39 vm0) (wc : (Cond.code y bytes maxL ret).before a0 Z = true) (wz : (Cond.initialized y.cls).before a0 Z = true) (hf : rm.frames + 1 ≤ R.frames) (hl : W + (maxL + 11) + rm.locals ≤ R.locals) (hEL : EW Z a0 EL) (H : CHv Z EL vm0 h) :
    BackS l R p e below (s.setVm vm0) args y len W (fun A a => a = as' ∧ A.U.heap = h ∧ A.cells + rm.cells ≤ R.cells ∧ A.slots + rm.slots ≤ R.slots)
      (fun A _ v B => ∃ L, Q v B.U.heap L ∧ B.locs = A.locs ++ L ∧ B.cells = A.cells + rm.cells ∧ B.slots = A.slots + rm.slots ∧ CHr Z EL vm0 h B.U.vm B.U.heap ∧ LQ B.U.vm B.U.heap) := by
  refine BackS.of_freeW (bytes := bytes) (maxL := maxL) (ret := ret) (E := fun _ fs o t L k n => (k = rm.cells ∧ n = rm.slots) ∧ (∃ v, o = .returned v ∧ Q v t.heap L) ∧ CHr Z EL fs.vm fs.heap t.vm t.heap ∧ LQ t.vm t.heap) hM hf hl ?_ ?_ (fun _ _ _ _ _ _ _ _ _ => trivial) ?_ ?_
  · intro m meth c A a Y hp
    have hU : Z.Warmed39 A.U.vm := wtrans (s := s.setVm vm0) hZ Y.warmed
    refine ⟨?_, mv hU wc, mv hU wz, hp.2.2.1, hp.2.2.2⟩
    show (Cond.and _ .tt).before a A.U = true
    rw [Cond.before_and, mv hU wc]; rfl
  · intro m meth c A a g mk Y hp
    exact ⟨hp.1, wtrans (s := s.setVm vm0) hZ Y.warmed, hp.2.1, (CHv.at Y hZ hEL H).1, hLP (Y.warmed.since 0).1⟩
  · rintro _ _ _ _ ⟨v, L, h1, h2, h3, h4⟩
    exact ⟨L, _, _, h4, ⟨rfl, rfl⟩, ⟨v, h1, h2⟩, h3⟩
  · rintro m meth c A a g mk v t L k n Y hp - - ⟨⟨e1, e2⟩, ⟨v', e3, e4⟩, e5, e6⟩
    cases e3; subst e1 e2
    refine ⟨L, e4, rfl, rfl, rfl, (CHv.at Y hZ hEL H).trans ?_, e6⟩
    rw [← hp.2.1]; exact e5
abbrev ELs : List (String × Nat) := [("java/lang/String", 7), ("java/lang/StringLatin1", 151), ("java/lang/StringUTF16", 295)]
abbrev MW (la : Launch) (Z : State) (hE : Heap) (y : MethodName) (c : ByteArray) (ml : Nat) (r : Option FieldType) (ws : List Cond) (rm : Room) (A : Array Value) (Q : Option Value → Heap → List Loc → Prop) : Prop := MetFree la y (head1 (Cond.code y c ml r :: ws) rm) (fun aa UU => aa = A ∧ Z.Warmed39 UU.vm ∧ UU.heap = hE ∧ CHv Z ELs UU.vm hE) (fun _ _ _ _ _ => True) (fun _ UU oo UV => ∃ vv LL, oo = .returned vv ∧ Q vv UV.heap LL ∧ CHr Z ELs UU.vm UU.heap UV.vm UV.heap ∧ ReturnedEndW UU oo UV LL rm.cells rm.slots)
theorem own_wS {a0 : Array Value} {Z : State} (hw : HW a0 Z) : ∀ a ∈ Bundle.stringAtoms, a.before a0 Z = true := fun d hd => hw d ((by decide +kernel : ∀ d ∈ Bundle.stringAtoms, d ∈ tables_1) d hd)
theorem own_EW {a0 : Array Value} {Z : State} (hw : HW a0 Z) : EW Z a0 ELs := (EW.cons (wd22 hw) (by decide) (EW.cons (wd148 hw) (by decide) (EW.cons (wd191 hw) (by decide) EW.nil)))

/-! Strings of Latin-1 chars -/
def LStr (Z : State) (h : Heap) (x t : Addr) (cs : List Int32) : Prop :=
  Exa Z h x c0_ ∧ Fld Z h x c0_ "value" "[B" (.ref t) ∧ Fld Z h x c0_ "coder" "B" (.int 0) ∧
    (∃ kb : ClassId, Arv Z h t kb .byte (Int32.ofNat cs.length) (cs.map fun c => Value.int c.toInt8.toInt32) (.int 0)) ∧ (∀ c ∈ cs, ¬ c < 0 ∧ ¬ (255 : Int32) < c) ∧ cs.length ≤ 4000
section OwnStr
variable {Z : State} {h h' : Heap} {x t : Addr} {cs : List Int32} {ws : List Addr}
theorem LStr.ext (F : LStr Z h x t cs) (E : Ext h h') : LStr Z h' x t cs := by
  obtain ⟨a, b, c, ⟨kb, d⟩, f⟩ := F; exact ⟨a.ext E, b.ext E, c.ext E, ⟨kb, d.ext E⟩, f⟩
theorem LStr.keep (F : LStr Z h x t cs) (K : Keep h h' ws) (q : x ∉ ws) (r : t ∉ ws) : LStr Z h' x t cs := by
  obtain ⟨a, b, c, ⟨kb, d⟩, f⟩ := F; exact ⟨a.keep K, b.keep K q, c.keep K q, ⟨kb, d.keep K r⟩, f⟩
theorem LStr.lt (F : LStr Z h x t cs) : x < h.size := F.1.lt
theorem LStr.ltt (F : LStr Z h x t cs) : t < h.size := by obtain ⟨_, _, _, ⟨_, d⟩, _⟩ := F; exact d.lt
theorem own_shr0 (n : Nat) : ((Int32.ofNat n) >>> ((0 : Int32) &&& 31)) = Int32.ofNat n := by
  rw [show ((0 : Int32) &&& 31) = 0 from by decide]; exact Int32.shiftRight_zero
theorem own_len_nn {n : Nat} (h : n ≤ 4000) : ¬ Int32.ofNat n < 0 := by rw [Int32.lt_iff_toInt_lt, Int32.toInt_ofNat_small (by omega)]; simp
theorem own_j0 {j : Int32} {i n : Nat} (hj : j = Int32.ofNat i) (hi : i < n) (hl : n ≤ 4000) : ¬ (j < (0 : Int32)) := by rw [hj]; exact own_len_nn (by omega)
theorem own_jn {j : Int32} {i n : Nat} (hj : j = Int32.ofNat i) (hi : i < n) (hl : n ≤ 4000) : j < Int32.ofNat n := by
  rw [hj, Int32.lt_iff_toInt_lt, Int32.toInt_ofNat_small (by omega), Int32.toInt_ofNat_small (by omega)]; omega
theorem own_jt {j : Int32} {i n : Nat} (hj : j = Int32.ofNat i) (hi : i < n) (hl : n ≤ 4000) : j.toNatClampNeg = i := by rw [hj]; exact Int32.toNatClampNeg_ofNat_of_lt (by omega)
theorem own_vs_at {i : Nat} (hi : i < cs.length) : (cs.map fun c => Value.int c.toInt8.toInt32).getD i (.int 0) = .int ((cs.getD i 0).toInt8.toInt32) := by
  simp [List.getD_eq_getElem?_getD, hi]
theorem own_getD_mem {i : Nat} (hi : i < cs.length) : cs.getD i 0 ∈ cs := by
  rw [show cs.getD i 0 = cs[i] from by simp [List.getD_eq_getElem?_getD, hi]]; exact List.getElem_mem _
theorem own_ch_bv : ∀ n, n < 256 → ((((Int32.ofNat n).toInt8.toInt32 &&& (255 : Int32)).toUInt32.toUInt16.toUInt32.toInt32).toUInt32.toUInt16.toUInt32.toInt32) = Int32.ofNat n := by decide +kernel
theorem own_ch_back {c : Int32} (h : ¬ c < 0 ∧ ¬ (255 : Int32) < c) : nar .char ((c.toInt8.toInt32 &&& (255 : Int32)).toUInt32.toUInt16.toUInt32.toInt32) = c := by
  have e := (back32 h.1).1
  have h2 : c.toNatClampNeg < 256 := by
    have := nat_of h.1; have h3 := h.2; rw [Int32.lt_iff_toInt_lt, this] at h3
    have : ¬ (255 : Int) < (c.toNatClampNeg : Int) := h3
    omega
  have := own_ch_bv c.toNatClampNeg h2
  rw [show Int32.ofNat c.toNatClampNeg = c from e] at this
  exact this
theorem own_nar_char : ∀ n, n < 65536 → nar .char (Int32.ofNat n) = Int32.ofNat n := fun n hn => by
  show (Int32.ofNat n).toUInt32.toUInt16.toUInt32.toInt32 = Int32.ofNat n
  apply Int32.toInt_inj.mp
  rw [Int32.toInt_ofNat_small (by omega)]
  have e : (Int32.ofNat n).toUInt32.toUInt16.toUInt32.toNat = n := by
    simp only [UInt16.toNat_toUInt32, UInt32.toNat_toUInt16]
    show (Int32.ofNat n).toUInt32.toNat % 2 ^ 16 = n
    rw [show (Int32.ofNat n).toUInt32 = UInt32.ofNat n from rfl, UInt32.toNat_ofNat_of_lt' (by show n < 2 ^ 32; omega)]
    omega
  show (((Int32.ofNat n).toUInt32.toUInt16.toUInt32).toInt32).toInt = _
  rw [show ((Int32.ofNat n).toUInt32.toUInt16.toUInt32).toInt32 = Int32.ofNat ((Int32.ofNat n).toUInt32.toUInt16.toUInt32.toNat) from by
    generalize (Int32.ofNat n).toUInt32.toUInt16.toUInt32 = u
    apply Int32.toBitVec_inj.mp; simp [Int32.toBitVec_ofNat], e, Int32.toInt_ofNat_small (by omega)]
theorem own_nar_c {c : Int32} (h : ¬ c < 0 ∧ ¬ (255 : Int32) < c) : nar .char c = c := by
  have e := (back32 h.1).1
  have h2 : c.toNatClampNeg < 65536 := by
    have := nat_of h.1; have h3 := h.2; rw [Int32.lt_iff_toInt_lt, this] at h3
    have : ¬ (255 : Int) < (c.toNatClampNeg : Int) := h3
    omega
  have := own_nar_char c.toNatClampNeg h2
  rw [show Int32.ofNat c.toNatClampNeg = c from e] at this
  exact this
end OwnStr
theorem own_i8 (x : Int32) : (x.toInt8.toInt32).toInt8.toInt32 = x.toInt8.toInt32 := by simp

theorem own_sc {p : Program} {l : Launch} {e : Env} {R : Room} {s : State} {m : MethodId} {args : Array Value} {below : List Frame} {meth : Method} {cd : Code} {T Z : State} {locs : List Loc} {cells slots : Nat} {h : Heap} (X : Stand p l e R s m args below meth cd T locs cells slots) (hx : p.tables.exec = Jvm.exec) (hZ : Z.Warmed39 s.vm) (eT : T.heap = h) {a : Addr} {kC : ClassId} {z : Int32} {vs : List Value} {dv : Value} (V : Arv Z h a kC .char z vs dv)
    (i : Nat) {c j : Int32} (hc : nar .char c = c) (hj : j.toNatClampNeg = i) (hin : ¬ j < 0 ∧ j < z) (hi : i < vs.length) {n0 : Nat} (N : Fr n0 locs) (ga : n0 ≤ a) {g : JFrame} (hg : g.method = m) {rest : List Value} (hs : g.stack = .int c :: .int j :: .ref a :: rest) (hd : decode cd.code g.pc = .ok (.castore, 1)) :
    ∃ T' h' L', Stand p l e R s m args below meth cd T' L' cells slots ∧ T'.heap = h' ∧ Fr n0 L' ∧ Keep h h' [a] ∧ Arv Z h' a kC .char z (vs.set i (.int c)) dv ∧ ∀ target, Steps p.tables e below (T'.setTop { g with pc := g.pc + 1, stack := rest }) target → Steps p.tables e below (T.setTop g) target := by
  obtain ⟨cl, Ar, q1, Sz, Nn, H, G⟩ := V
  obtain ⟨T', h', X', e', W, st⟩ := stC X hx hZ eT Ar (inb_of Sz hin) hg hs hd
  rw [hc] at W
  exact ⟨T', h', _, X', e', Fr.snoc X' N ga, Keep.of_wr W, Arv.set Ar q1 Sz Nn H G (by rw [← hc]; exact fits_nar_char c) W i hj hi, st⟩

/-! StringBuilders of Latin-1 chars -/
abbrev bys (cs : List Int32) : List Value := cs.map fun c => Value.int c.toInt8.toInt32
abbrev pads (cap : Nat) (cs : List Int32) : List Value := bys cs ++ List.replicate (cap - cs.length) (.int 0)
def SBl (Z : State) (h : Heap) (b t : Addr) (cap : Nat) (cs : List Int32) : Prop :=
  Exa Z h b "java/lang/StringBuilder" ∧ Fld Z h b "java/lang/AbstractStringBuilder" "value" "[B" (.ref t) ∧ Fld Z h b "java/lang/AbstractStringBuilder" "coder" "B" (.int 0) ∧ Fld Z h b "java/lang/AbstractStringBuilder" "count" "I" (.int (Int32.ofNat cs.length)) ∧
    (∃ kb : ClassId, Arv Z h t kb .byte (Int32.ofNat cap) (pads cap cs) (.int 0)) ∧ Exa Z h t "[B" ∧ (∀ c ∈ cs, ¬ c < 0 ∧ ¬ (255 : Int32) < c) ∧ cs.length ≤ cap ∧ cap ≤ 120
section OwnSB
variable {Z : State} {h h' : Heap} {b t : Addr} {cap : Nat} {cs ds : List Int32} {ws : List Addr}
theorem SBl.ext (F : SBl Z h b t cap cs) (E : Ext h h') : SBl Z h' b t cap cs := by
  obtain ⟨a, v, c, n, ⟨kb, d⟩, x, f⟩ := F; exact ⟨a.ext E, v.ext E, c.ext E, n.ext E, ⟨kb, d.ext E⟩, x.ext E, f⟩
theorem SBl.keep (F : SBl Z h b t cap cs) (K : Keep h h' ws) (q : b ∉ ws) (r : t ∉ ws) : SBl Z h' b t cap cs := by
  obtain ⟨a, v, c, n, ⟨kb, d⟩, x, f⟩ := F; exact ⟨a.keep K, v.keep K q, c.keep K q, n.keep K q, ⟨kb, d.keep K r⟩, x.keep K, f⟩
theorem SBl.lt (F : SBl Z h b t cap cs) : b < h.size := F.1.lt
theorem SBl.ltt (F : SBl Z h b t cap cs) : t < h.size := by obtain ⟨_, _, _, _, ⟨_, d⟩, _⟩ := F; exact d.lt
theorem own_sh0 (x : Int32) : (x >>> ((0 : Int32) &&& 31)) = x := by rw [show ((0 : Int32) &&& 31) = 0 from by decide]; exact Int32.shiftRight_zero
theorem own_shl0 (x : Int32) : (x <<< ((0 : Int32) &&& 31)) = x := by rw [show ((0 : Int32) &&& 31) = 0 from by decide]; exact Int32.shiftLeft_zero
theorem own_n32 {n : Nat} (h : n ≤ 4000) : (Int32.ofNat n).toNatClampNeg = n := Int32.toNatClampNeg_ofNat_of_lt (by omega)
theorem own_add32 (a b : Nat) : Int32.ofNat a + Int32.ofNat b = Int32.ofNat (a + b) := (Int32.ofNat_add a b).symm
theorem own_lt32 {a b : Nat} (ha : a ≤ 4000) (hb : b ≤ 4000) : Int32.ofNat a < Int32.ofNat b ↔ a < b := by
  rw [Int32.lt_iff_toInt_lt, Int32.toInt_ofNat_small (by omega), Int32.toInt_ofNat_small (by omega)]; omega
theorem own_eq32 {a b : Nat} (ha : a ≤ 4000) (hb : b ≤ 4000) : Int32.ofNat a = Int32.ofNat b ↔ a = b := ⟨fun q => by
  have := congrArg Int32.toInt q; rw [Int32.toInt_ofNat_small (by omega), Int32.toInt_ofNat_small (by omega)] at this; omega, fun q => by rw [q]⟩
theorem own_sub32 {a b : Nat} (h : b ≤ a) : Int32.ofNat a - Int32.ofNat b = Int32.ofNat (a - b) := (Int32.ofNat_sub _ _ h).symm
theorem own_gap {n cap : Nat} (hn : n ≤ 4000) (hc : cap ≤ 4000) : (0 : Int32) < Int32.ofNat n - Int32.ofNat cap ↔ cap < n := by
  rw [Int32.lt_iff_toInt_lt, Int32.toInt_sub, Int32.toInt_ofNat_small (by omega), Int32.toInt_ofNat_small (by omega), Int.bmod_eq_of_le (by omega) (by omega)]
  show (0 : Int) < _ ↔ _; omega
theorem own_us {vs : List Value} {d : Value} {n : Nat} (h : n = vs.length) : vs = (List.range n).map fun i => vs.getD (0 + i) d := by
  subst h; apply List.ext_getElem
  · simp
  · intro i h1 h2; simp [List.getD_eq_getElem?_getD, h1]
theorem own_us_take {vs : List Value} {d : Value} {n : Nat} (h : n ≤ vs.length) : vs.take n = (List.range n).map fun i => vs.getD (0 + i) d := by
  apply List.ext_getElem
  · simp [h]
  · intro i h1 h2
    have h3 : i < n := by simpa using h2
    simp [List.getD_eq_getElem?_getD, show i < vs.length by omega]
theorem own_pads_len (h : cs.length ≤ cap) : (pads cap cs).length = cap := by simp [pads, bys]; omega
theorem own_bys_len (cs : List Int32) : (bys cs).length = cs.length := by simp [bys]
theorem own_bys_take (cs : List Int32) : (bys cs).take cs.length = bys cs := List.take_of_length_le (Nat.le_of_eq (own_bys_len cs))
theorem own_pads_take : (pads cap cs).take cs.length = bys cs := by
  unfold pads; rw [List.take_append_of_le_length (Nat.le_of_eq (own_bys_len cs).symm), own_bys_take]
theorem own_pads_put (h : cs.length + ds.length ≤ cap) : (pads cap cs).take cs.length ++ bys ds ++ (pads cap cs).drop (cs.length + ds.length) = pads cap (cs ++ ds) := by
  rw [own_pads_take]
  have e2 : (pads cap cs).drop (cs.length + ds.length) = List.replicate (cap - (cs.length + ds.length)) (Value.int 0) := by
    unfold pads
    rw [List.drop_append, List.drop_of_length_le (by rw [own_bys_len]; omega), List.nil_append, own_bys_len, List.drop_replicate]
    congr 1; omega
  rw [e2]
  unfold pads
  rw [List.length_append, show bys (cs ++ ds) = bys cs ++ bys ds from List.map_append]
theorem own_pads_grow {c2 : Nat} (h1 : cs.length ≤ cap) (h2 : cap ≤ c2) : ([] ++ List.replicate c2 (Value.int 0)).take 0 ++ pads cap cs ++ ([] ++ List.replicate c2 (Value.int 0)).drop (0 + cap) = pads c2 cs := by
  simp [pads, bys, List.append_assoc, List.replicate_append_replicate]; omega
theorem own_pads_cut (h : cs.length ≤ cap) : ([] ++ List.replicate cs.length (Value.int 0)).take 0 ++ (pads cap cs).take cs.length ++ ([] ++ List.replicate cs.length (Value.int 0)).drop (0 + cs.length) = bys cs := by
  rw [own_pads_take]; simp
theorem own_pads_full (h : cs.length = cap) : pads cap cs = bys cs := by simp [pads, h]
theorem own_bd_app (h1 : ∀ c ∈ cs, ¬ c < 0 ∧ ¬ (255 : Int32) < c) (h2 : ∀ c ∈ ds, ¬ c < 0 ∧ ¬ (255 : Int32) < c) : ∀ c ∈ cs ++ ds, ¬ c < 0 ∧ ¬ (255 : Int32) < c := fun c hc => (List.mem_append.mp hc).elim (h1 c) (h2 c)
def ncap (cap n : Nat) : Nat := if n - cap < cap + 2 then 2 * cap + 2 else n
theorem own_ncap {n : Nat} (h : cap < n) (hn : n ≤ 120) (hc : cap ≤ 50) : n ≤ ncap cap n ∧ cap < ncap cap n ∧ ncap cap n ≤ 120 := by unfold ncap; split <;> omega
theorem own_newlen {n : Nat} (h : cap < n) (hn : n ≤ 120) (hc : cap ≤ 50) : (Int32.ofNat cap + (if (Int32.ofNat n - Int32.ofNat cap) < (Int32.ofNat cap + (2 : Int32)) then (Int32.ofNat cap + (2 : Int32)) else (Int32.ofNat n - Int32.ofNat cap))) = Int32.ofNat (ncap cap n) := by
  rw [own_sub32 (by omega), show (2 : Int32) = Int32.ofNat 2 from rfl, own_add32]
  unfold ncap
  by_cases q : n - cap < cap + 2
  · rw [if_pos ((own_lt32 (by omega) (by omega)).mpr q), if_pos q, own_add32]; congr 1; omega
  · rw [if_neg (fun z => q ((own_lt32 (by omega) (by omega)).mp z)), if_neg q, own_add32]; congr 1; omega
theorem own_big {n : Nat} (h : n ≤ 4000) : ¬ ((2147483639 : Int32) < Int32.ofNat n) := by
  rw [Int32.lt_iff_toInt_lt, Int32.toInt_ofNat_small (by omega), show (2147483639 : Int32).toInt = 2147483639 from by decide]; omega
theorem own_max {n : Nat} (h : n ≤ 4000) : ¬ (Int32.ofNat n = (2147483647 : Int32)) := fun q => by
  have := congrArg Int32.toInt q; rw [Int32.toInt_ofNat_small (by omega), show (2147483647 : Int32).toInt = 2147483647 from by decide] at this; omega
end OwnSB

def WStr (Z : State) (h : Heap) (x t : Addr) (cs : List Int32) : Prop := Exa Z h x c0_ ∧ Fld Z h x c0_ "value" "[B" (.ref t) ∧
  (∃ (cd N2 : Int32) (vs : List Value) (kb : ClassId), Fld Z h x c0_ "coder" "B" (.int cd) ∧ Arv Z h t kb .byte N2 vs (.int 0) ∧ StrChars.Road.CodA cs cd N2 vs) ∧ (∀ c ∈ cs, ¬ c < 0 ∧ ¬ (65535 : Int32) < c) ∧ cs.length ≤ 4000
theorem WStr.ext {Z : State} {h h' : Heap} {x t : Addr} {cs : List Int32} (F : WStr Z h x t cs) (E : Ext h h') : WStr Z h' x t cs := by
  obtain ⟨a, b, ⟨cd, n, vs, kb, c, d, e⟩, r⟩ := F
  exact ⟨a.ext E, b.ext E, ⟨cd, n, vs, kb, c.ext E, d.ext E, e⟩, r⟩
theorem WStr.keep {Z : State} {h h' : Heap} {x t : Addr} {cs : List Int32} {ws : List Addr} (F : WStr Z h x t cs) (K : Keep h h' ws) (h1 : x ∉ ws) (h2 : t ∉ ws) : WStr Z h' x t cs := by
  obtain ⟨a, b, ⟨cd, n, vs, kb, c, d, e⟩, r⟩ := F
  exact ⟨a.keep K, b.keep K h1, ⟨cd, n, vs, kb, c.keep K h1, d.keep K h2, e⟩, r⟩
theorem WStr.lt {Z : State} {h : Heap} {x t : Addr} {cs : List Int32} (F : WStr Z h x t cs) : x < h.size := F.1.lt
theorem WStr.ltt {Z : State} {h : Heap} {x t : Addr} {cs : List Int32} (F : WStr Z h x t cs) : t < h.size := by obtain ⟨-, -, ⟨_, _, _, _, -, d, -⟩, -⟩ := F; exact d.lt

theorem own_w0 {n m : Nat} (hn : n < m) (hm : m ≤ 8000) : ¬ Int32.ofNat n < 0 ∧ Int32.ofNat n < Int32.ofNat m := by
  rw [Int32.lt_iff_toInt_lt, Int32.lt_iff_toInt_lt, Int32.toInt_ofNat_small (by omega), Int32.toInt_ofNat_small (by omega)]
  exact ⟨by show ¬ _ < (0 : Int); omega, by omega⟩
theorem own_wn {n : Nat} (hn : n ≤ 8000) : (Int32.ofNat n).toNatClampNeg = n := Int32.toNatClampNeg_ofNat_of_lt (by omega)
theorem own_shl1 {i : Nat} (hi : i ≤ 4000) : Int32.ofNat i <<< ((1 : Int32) &&& 31) = Int32.ofNat (2 * i) := by
  have e : Int32.ofNat i <<< ((1 : Int32) &&& 31) = Int32.ofNat i * 2 := by
    apply Int32.toBitVec_inj.mp
    simp [Int32.toBitVec_shiftLeft, Int32.toBitVec_mul]
    bv_omega
  rw [e, show (2 : Int32) = Int32.ofNat 2 from rfl, ← Int32.ofNat_mul, Nat.mul_comm]

theorem own_nar_w {c : Int32} (h : ¬ c < 0 ∧ ¬ (65535 : Int32) < c) : nar .char c = c := by
  have e := (back32 h.1).1
  have h2 : c.toNatClampNeg < 65536 := by
    have := h.2; rw [Int32.lt_iff_toInt_lt, nat_of h.1] at this
    have q : ((65535 : Int32).toInt) = 65535 := by decide
    rw [q] at this; omega
  rw [← e]
  generalize c.toNatClampNeg = n at h2
  apply Int32.toInt_inj.mp
  show (((Int32.ofNat n).toUInt32.toUInt16.toUInt32).toInt32).toInt = _
  have e3 : (Int32.ofNat n).toUInt32.toUInt16.toUInt32.toNat = n := by
    show (Int32.ofNat n).toUInt32.toNat % 2 ^ 16 = n
    rw [show (Int32.ofNat n).toUInt32 = UInt32.ofNat n from rfl, UInt32.toNat_ofNat_of_lt' (by show n < 2 ^ 32; omega)]
    omega
  rw [show ((Int32.ofNat n).toUInt32.toUInt16.toUInt32).toInt32 = Int32.ofNat ((Int32.ofNat n).toUInt32.toUInt16.toUInt32.toNat) from by
    generalize (Int32.ofNat n).toUInt32.toUInt16.toUInt32 = u
    apply Int32.toBitVec_inj.mp; simp [Int32.toBitVec_ofNat], e3]
theorem own_gch {c : Int32} (h : ¬ c < 0 ∧ ¬ (65535 : Int32) < c) : nar .char ((((StrChars.lo8 c &&& (255 : Int32)) <<< ((0 : Int32) &&& 31)) ||| ((StrChars.hi8 c &&& (255 : Int32)) <<< ((8 : Int32) &&& 31))).toUInt32.toUInt16.toUInt32.toInt32) = c := by
  have e := StrChars.pair_says h.1 h.2
  unfold StrChars.pairCh at e
  rw [e]; exact own_nar_w h

theorem own_sb {p : Program} {l : Launch} {e : Env} {R : Room} {s : State} {m : MethodId} {args : Array Value} {below : List Frame} {meth : Method} {cd : Code} {T Z : State} {locs : List Loc} {cells slots : Nat} {h : Heap} (X : Stand p l e R s m args below meth cd T locs cells slots) (hx : p.tables.exec = Jvm.exec) (hZ : Z.Warmed39 s.vm) (eT : T.heap = h) {a : Addr} {kC : ClassId} {z : Int32} {vs : List Value} {dv : Value} (V : Arv Z h a kC .byte z vs dv)
    (i : Nat) {c w j : Int32} (hc : nar .byte c = w) (hj : j.toNatClampNeg = i) (hin : ¬ j < 0 ∧ j < z) (hi : i < vs.length) {n0 : Nat} (N : Fr n0 locs) (ga : n0 ≤ a) {g : JFrame} (hg : g.method = m) {rest : List Value} (hs : g.stack = .int c :: .int j :: .ref a :: rest) (hd : decode cd.code g.pc = .ok (.bastore, 1)) :
    ∃ T' h' L', Stand p l e R s m args below meth cd T' L' cells slots ∧ T'.heap = h' ∧ Fr n0 L' ∧ Keep h h' [a] ∧ Arv Z h' a kC .byte z (vs.set i (.int w)) dv ∧ ∀ target, Steps p.tables e below (T'.setTop { g with pc := g.pc + 1, stack := rest }) target → Steps p.tables e below (T.setTop g) target := by
  obtain ⟨cl, Ar, q1, Sz, Nn, H, G⟩ := V
  obtain ⟨T', h', X', e', W, st⟩ := stB X hx hZ eT Ar (inb_of Sz hin) hg hs hd
  rw [hc] at W
  exact ⟨T', h', _, X', e', Fr.snoc X' N ga, Keep.of_wr W, Arv.set Ar q1 Sz Nn H G (by rw [← hc]; exact fits_nar_byte c) W i hj hi, st⟩

theorem own_pc0 (c : Int32) : nar .byte ((c >>> ((0 : Int32) &&& 31)).toInt8.toInt32) = StrChars.lo8 c := by
  show ((c >>> ((0 : Int32) &&& 31)).toInt8.toInt32).toInt8.toInt32 = c.toInt8.toInt32
  have e : c >>> ((0 : Int32) &&& 31) = c := by simp
  rw [e, own_i8]
theorem own_pc8 (c : Int32) : nar .byte ((c >>> ((8 : Int32) &&& 31)).toInt8.toInt32) = StrChars.hi8 c := by
  show ((c >>> ((8 : Int32) &&& 31)).toInt8.toInt32).toInt8.toInt32 = (c >>> ((8 : Int32) &&& 31)).toInt8.toInt32
  rw [own_i8]

theorem own_shr1 {n : Nat} (h : n ≤ 4000) : ((Int32.ofNat (2 * n)) >>> ((1 : Int32) &&& 31)) = Int32.ofNat n := by
  rw [show ((1 : Int32) &&& 31) = 1 from by decide]
  apply Int32.toInt_inj.mp
  show (Int32.ofNat (2 * n) >>> 1).toBitVec.toInt = _
  rw [Int32.toBitVec_shiftRight, show ((1 : Int32).toBitVec.smod 32) = 1#32 from by decide, BitVec.sshiftRight_eq', BitVec.toInt_sshiftRight]
  show (Int32.ofNat (2 * n)).toInt >>> 1 = _
  rw [Int32.toInt_ofNat_of_lt (by omega), Int32.toInt_ofNat_of_lt (by omega), Int.shiftRight_eq_div_pow]; omega
theorem own_cfw {cs : List Int32} {j cd N2 : Int32} {vs : List Value} (hj : j = Int32.ofNat cs.length) (h0 : 0 < cs.length) (h4 : cs.length ≤ 4) (hcod : StrChars.Road.CodA cs cd N2 vs) : nar .byte ((((j - N2).toUInt32 >>> ((31 : Int32) &&& 31).toUInt32).toInt32).toInt8.toInt32) = cd := by
  subst hj
  rcases hcod with ⟨rfl, rfl, -, -⟩ | ⟨rfl, rfl, -, -⟩
  · rw [Int32.sub_self]; decide
  · generalize cs.length = n at h0 h4
    obtain rfl | rfl | rfl | rfl : n = 1 ∨ n = 2 ∨ n = 3 ∨ n = 4 := by omega
    all_goals decide
theorem own_cd8 {cs : List Int32} {cd N2 : Int32} {vs : List Value} (hcod : StrChars.Road.CodA cs cd N2 vs) : cd.toInt8.toInt32 = cd := by
  rcases hcod with ⟨rfl, -⟩ | ⟨rfl, -⟩ <;> decide
theorem own_l35n : ∀ n, n < 256 → ((Int32.ofNat n).toInt8.toInt32 = (35 : Int32) ↔ Int32.ofNat n = (35 : Int32)) := by decide +kernel
theorem own_l35 {c : Int32} (h : ¬ c < 0 ∧ ¬ (255 : Int32) < c) : StrChars.lo8 c = (35 : Int32) ↔ c = (35 : Int32) := by
  have e := (back32 h.1).1
  have h2 : c.toNatClampNeg < 256 := by
    have := nat_of h.1; have h3 := h.2; rw [Int32.lt_iff_toInt_lt, this] at h3
    have : ¬ (255 : Int) < (c.toNatClampNeg : Int) := h3
    omega
  have := own_l35n c.toNatClampNeg h2
  rw [show Int32.ofNat c.toNatClampNeg = c from e] at this
  exact this
theorem own_wlen (cs : List Int32) : (StrChars.Road.wideBytes cs).length = 2 * cs.length := by
  induction cs with
  | nil => rfl
  | cons c r ih => show (StrChars.Road.wideBytes r).length + 1 + 1 = 2 * (r.length + 1); omega
theorem own_wtk (cs : List Int32) (m : Nat) : (StrChars.Road.wideBytes cs).take (2 * m) = StrChars.Road.wideBytes (cs.take m) := by
  induction cs generalizing m with
  | nil => cases m <;> simp [StrChars.Road.wideBytes]
  | cons c r ih =>
    cases m with
    | zero => rfl
    | succ k => rw [show 2 * (k + 1) = 2 * k + 1 + 1 from by omega]; simp [StrChars.Road.wideBytes, ih]
theorem own_tl {cs : List Int32} {m : Nat} (h : m < cs.length) : (cs.take m).length = m := by simp; omega
theorem own_len4 {cs : List Int32} (h0 : 0 < cs.length) (h4 : cs.length ≤ 4) : (∃ a, cs = [a]) ∨ (∃ a b, cs = [a, b]) ∨ (∃ a b c, cs = [a, b, c]) ∨ (∃ a b c d, cs = [a, b, c, d]) := match cs, h0, h4 with
  | [a], _, _ => Or.inl ⟨a, rfl⟩
  | [a, b], _, _ => Or.inr (Or.inl ⟨a, b, rfl⟩)
  | [a, b, c], _, _ => Or.inr (Or.inr (Or.inl ⟨a, b, c, rfl⟩))
  | [a, b, c, d], _, _ => Or.inr (Or.inr (Or.inr ⟨a, b, c, d, rfl⟩))
  | _ :: _ :: _ :: _ :: _ :: _, _, h => absurd h (by simp)
def CpR (cs : List Int32) (r : Int32) (vs : List Value) : Prop := (r = Int32.ofNat cs.length ∧ vs = (cs.map fun c => Value.int (StrChars.lo8 c)) ∧ ∀ c ∈ cs, ¬ (255 : Int32) < c) ∨ (∃ i, i < cs.length ∧ r = Int32.ofNat i ∧ (255 : Int32) < cs.getD i 0)
def ixG (k : Nat) : List Int32 → Int32
  | [] => -1
  | c :: r => if c = (35 : Int32) then Int32.ofNat k else ixG (k + 1) r
theorem own_take1 {cs : List Int32} (h : 1 < cs.length) : cs.take 1 = [cs.getD 0 0] := match cs, h with | _ :: _ :: _, _ => rfl
theorem own_take2 {cs : List Int32} (h : 2 < cs.length) : cs.take 2 = [cs.getD 0 0, cs.getD 1 0] := match cs, h with | _ :: _ :: _ :: _, _ => rfl
theorem own_take3 {cs : List Int32} (h : 3 < cs.length) : cs.take 3 = [cs.getD 0 0, cs.getD 1 0, cs.getD 2 0] := match cs, h with | _ :: _ :: _ :: _ :: _, _ => rfl
theorem own_getD_take {cs : List Int32} {m i : Nat} (h : i < m) : (cs.take m).getD i 0 = cs.getD i 0 := by simp [List.getD_eq_getElem?_getD, List.getElem?_take, h]
theorem own_nar_rng (q : Int32) : ¬ nar .char q < 0 ∧ ¬ (65535 : Int32) < nar .char q := by
  show ¬ (q.toUInt32.toUInt16.toUInt32).toInt32 < 0 ∧ ¬ (65535 : Int32) < (q.toUInt32.toUInt16.toUInt32).toInt32
  have h : q.toUInt32.toUInt16.toUInt32.toNat < 65536 := by
    show q.toUInt32.toNat % 2 ^ 16 < 65536; omega
  rw [show (q.toUInt32.toUInt16.toUInt32).toInt32 = Int32.ofNat (q.toUInt32.toUInt16.toUInt32.toNat) from by
    generalize q.toUInt32.toUInt16.toUInt32 = u
    apply Int32.toBitVec_inj.mp; simp [Int32.toBitVec_ofNat]]
  rw [Int32.lt_iff_toInt_lt, Int32.lt_iff_toInt_lt, Int32.toInt_ofNat_small (by omega), show (65535 : Int32).toInt = 65535 from by decide, show (0 : Int32).toInt = 0 from by decide]
  omega

theorem own_or_nn {a b : Int32} (h1 : ¬ a < 0) (h2 : ¬ b < 0) : ¬ (a ||| b) < 0 := by
  have e : ∀ c : Int32, ¬ c < 0 ↔ c.toBitVec.msb = false := fun c => by
    rw [Int32.lt_iff_toInt_lt]
    show ¬ c.toBitVec.toInt < 0 ↔ _
    rw [BitVec.msb_eq_toInt]; simp
  rw [e] at *
  rw [Int32.toBitVec_or, BitVec.msb_or, h1, h2]; rfl
theorem own_lt8 {a b : Nat} (ha : a ≤ 8000) (hb : b ≤ 8000) : Int32.ofNat a < Int32.ofNat b ↔ a < b := by
  rw [Int32.lt_iff_toInt_lt, Int32.toInt_ofNat_small (by omega), Int32.toInt_ofNat_small (by omega)]; omega
theorem own_eq8 {a b : Nat} (ha : a ≤ 8000) (hb : b ≤ 8000) : Int32.ofNat a = Int32.ofNat b ↔ a = b := ⟨fun q => by
  have := congrArg Int32.toInt q; rw [Int32.toInt_ofNat_small (by omega), Int32.toInt_ofNat_small (by omega)] at this; omega, fun q => by rw [q]⟩
theorem own_nn8 {n : Nat} (h : n ≤ 8000) : ¬ Int32.ofNat n < 0 := by rw [Int32.lt_iff_toInt_lt, Int32.toInt_ofNat_small (by omega)]; simp
theorem own_cut {vs : List Value} {m : Nat} (h : m ≤ vs.length) : ([] ++ List.replicate m (Value.int 0)).take 0 ++ vs.take m ++ ([] ++ List.replicate m (Value.int 0)).drop (0 + m) = vs.take m := by simp

theorem own_ix_hit : ∀ (cs : List Int32) (s k : Nat), k < cs.length → (∀ j, j < k → ¬ cs.getD j 0 = (35 : Int32)) → cs.getD k 0 = (35 : Int32) → ixG s cs = Int32.ofNat (s + k)
  | [], _, _, h, _, _ => absurd h (Nat.not_lt_zero _)
  | c :: r, s, 0, _, _, e => by rw [ixG, if_pos (show c = 35 from e)]; rfl
  | c :: r, s, k + 1, h, hj, e => by
    rw [ixG, if_neg (show ¬ c = 35 from hj 0 (Nat.succ_pos _)), own_ix_hit r (s + 1) k (Nat.lt_of_succ_lt_succ h) (fun j q => hj (j + 1) (Nat.succ_lt_succ q)) e]
    congr 1; omega
theorem own_ix_hit0 (cs : List Int32) (k : Nat) (hk : k < cs.length) (h : ∀ j, j < k → ¬ cs.getD j 0 = (35 : Int32)) (e : cs.getD k 0 = (35 : Int32)) : ixG 0 cs = Int32.ofNat k := by
  have := own_ix_hit cs 0 k hk h e; rwa [Nat.zero_add] at this
theorem own_ix_out : ∀ (cs : List Int32) (s : Nat), (∀ j, j < cs.length → ¬ cs.getD j 0 = (35 : Int32)) → ixG s cs = -1
  | [], _, _ => rfl
  | c :: r, s, h => by rw [ixG, if_neg (show ¬ c = 35 from h 0 (Nat.succ_pos _))]; exact own_ix_out r (s + 1) (fun j q => h (j + 1) (Nat.succ_lt_succ q))
theorem own_lt0 {P : Nat → Prop} : ∀ j, j < 0 → P j := fun _ h => absurd h (Nat.not_lt_zero _)
theorem own_ltS {P : Nat → Prop} {k : Nat} (h : ∀ j, j < k → P j) (q : P k) : ∀ j, j < k + 1 → P j := fun j hj => (Nat.lt_or_ge j k).elim (h j) fun z => (by omega : k = j) ▸ q
theorem own_e1 {cs : List Int32} (h : cs.length = 1) : ∃ a, cs = [a] := match cs, h with | [a], _ => ⟨a, rfl⟩
theorem own_e2 {cs : List Int32} (h : cs.length = 2) : ∃ a b, cs = [a, b] := match cs, h with | [a, b], _ => ⟨a, b, rfl⟩
theorem own_e3 {cs : List Int32} (h : cs.length = 3) : ∃ a b c, cs = [a, b, c] := match cs, h with | [a, b, c], _ => ⟨a, b, c, rfl⟩
theorem own_e4 {cs : List Int32} (h : cs.length = 4) : ∃ a b c d, cs = [a, b, c, d] := match cs, h with | [a, b, c, d], _ => ⟨a, b, c, d, rfl⟩
theorem own_cget {cs : List Int32} {i : Nat} (h : i < cs.length) {d : Value} : (cs.map Value.int).getD i d = .int (cs.getD i 0) := by simp [List.getD_eq_getElem?_getD, h]
theorem own_nb (x : Int32) : nar .byte (x.toInt8.toInt32) = StrChars.lo8 x := own_i8 x

theorem own_us_drop {vs : List Value} {d : Value} {a n : Nat} (h : a + n = vs.length) : vs.drop a = (List.range n).map fun i => vs.getD (a + i) d := by
  apply List.ext_getElem
  · simp; omega
  · intro i h1 h2
    have h3 : i < n := by simpa using h2
    simp [List.getD_eq_getElem?_getD, show a + i < vs.length by omega]
theorem own_cut1 {us : List Value} {m : Nat} : ([] ++ List.replicate m (Value.int 0)).take 0 ++ us ++ ([] ++ List.replicate m (Value.int 0)).drop (0 + m) = us := by simp
theorem own_wdr (cs : List Int32) (m : Nat) : (StrChars.Road.wideBytes cs).drop (2 * m) = StrChars.Road.wideBytes (cs.drop m) := by
  induction cs generalizing m with
  | nil => cases m <;> simp [StrChars.Road.wideBytes]
  | cons c r ih =>
    cases m with
    | zero => rfl
    | succ k => rw [show 2 * (k + 1) = 2 * k + 1 + 1 from by omega]; simp [StrChars.Road.wideBytes, ih]
theorem own_dl {cs : List Int32} {off m : Nat} (he : off + m = cs.length) : (cs.drop off).length = m := by rw [List.length_drop]; omega
theorem own_gd {cs : List Int32} {i : Nat} (h : i < cs.length) : cs.getD i 0 = cs[i] := by simp [List.getD_eq_getElem?_getD, h]
theorem own_drop1 {cs : List Int32} {off : Nat} (he : off + 1 = cs.length) : cs.drop off = [cs.getD off 0] := by
  rw [List.drop_eq_getElem_cons (by omega), List.drop_of_length_le (by omega), own_gd (by omega)]
theorem own_drop2 {cs : List Int32} {off : Nat} (he : off + 2 = cs.length) : cs.drop off = [cs.getD off 0, cs.getD (off + 1) 0] := by
  rw [List.drop_eq_getElem_cons (by omega), own_drop1 (off := off + 1) (by omega), own_gd (i := off) (by omega)]
theorem own_drop3 {cs : List Int32} {off : Nat} (he : off + 3 = cs.length) : cs.drop off = [cs.getD off 0, cs.getD (off + 1) 0, cs.getD (off + 2) 0] := by
  rw [List.drop_eq_getElem_cons (by omega), own_drop2 (off := off + 1) (by omega), own_gd (i := off) (by omega)]
section OwnLitRead
open Jvm.Free.SB Jvm.Free.SBG
theorem own_litRead {Z s : State} {a0 : Array Value} {EL : List (String × Nat)} {vm : Vm} {h : Heap} {own text : String} {index : Nat} {cls : ClassId} (hW : Z.Warmed39 vm) (hf : vm.findClass own = some cls) (w : (Cond.stringLink own index text).before a0 Z = true) (hmem : (own, index) ∈ EL) (H : CHv Z EL vm h) {a : Addr} (L : Lit (s.setVm vm) own index a)
    {vs : List Value} {z : Int32} (ht : (∀ c ∈ text.toList, c.toNat < 256) ∧ text.toList.map (fun c => Value.int (Jvm.Lit.byteI c.toNat.toUInt16)) = vs) (hz : ¬ z < 0) (hl : z.toNatClampNeg = vs.length) :
    ∃ (b : Addr) (k : ClassId), Exa Z h a c0_ ∧ Fld Z h a c0_ "coder" "B" (.int 0) ∧ Fld Z h a c0_ "value" "[B" (.ref b) ∧ Arv Z h b k .byte z vs (.int 0) := by
  have w2 : (Cond.stringLink own index text).before a0 (Wst Z vm h) = true := mvS (s := { Z with heap := h }) hW w
  obtain ⟨k0, cf, i, units, hkx, hcf, hp, hu, -, htext, -⟩ := Cond.stringLink_spec (s := Wst Z vm h) hf w2
  have hkx : vm.classes[cls]? = some k0 := hkx
  have hres : k0.resolved[index]? = some (some (.string a)) := by
    have q : (s.setVm vm).resolvedAt? own index = some (.string a) := L
    simp [State.resolvedAt?, hf, hkx] at q
    cases hr : k0.resolved[index]? with
    | none => rw [hr] at q; cases q
    | some o =>
      rw [hr] at q
      cases o with
      | none => cases q
      | some r => simpa using q
  have B : Booksv vm own index units a := ⟨cls, k0, cf, i, hf, hkx, hcf, hp, hu, Or.inl hres⟩
  have hal : Z.vm.Alike vm := hW.alike
  have hlat := Jvm.ClassFile.lat_of_text htext ht.1
  obtain ⟨q, hqa, cS, ⟨⟨s1, s2, s3, ⟨cv, kv, iv, s4, s4'⟩, ⟨cc, kc, ic, s5, s5'⟩, s6, s7, s8, s9, s10, ⟨hst, k9, hk9, comp, hkind9⟩, s12, -, -, -, s16⟩, hfS, hcS⟩, ⟨kS, k1, k2, k3⟩, hB, hbyt⟩ := SlB.of (H _ hmem units a B)
  subst hqa
  have hfS : vm.findClass c0_ = some cS := hfS
  have hB : vm.findClass "[B" = some q.SA.cls := hB
  have k1 : vm.classes[cS]? = some kS := k1
  have hk9 : vm.classes[q.SA.cls]? = some k9 := hk9
  obtain ⟨kv', z4⟩ := ff_back (U := Wst Z vm h) hal s4
  obtain ⟨kc', z5⟩ := ff_back (U := Wst Z vm h) hal s5
  have hfZ : Z.vm.findClass c0_ = some q.sC.cls := by rw [← hal.findClass, hcS]; exact hfS
  obtain ⟨kz, hkz, -⟩ := Vm.findClass_spec hfZ
  obtain ⟨kz', hkz', ekz⟩ := hal.2.2 _ _ hkz
  have ekS : kz' = kS := Option.some.inj (hkz'.symm.trans (hcS ▸ k1))
  have hBZ : Z.vm.findClass "[B" = some q.SA.cls := by rw [← hal.findClass]; exact hB
  obtain ⟨kb, hkb, -⟩ := Vm.findClass_spec hBZ
  obtain ⟨kb', hkb', ekb⟩ := hal.2.2 _ _ hkb
  have ek9 : k9 = kb' := Option.some.inj (hk9.symm.trans hkb')
  have eu : vs = units.toList.map fun u => Value.int (Jvm.Lit.byteI u) := by rw [← ht.2, Jvm.ClassFile.units_of_text htext ht.1, List.map_map]; rfl
  have el : vs.length = units.size := by rw [eu]; simp
  have hsl : q.SA.slots = units.map fun u => Value.int (Jvm.Lit.byteI u) := by rw [hbyt, SBG.stringBytes_lat hlat]; rfl
  have hsz : q.SA.slots.size = units.size := by rw [hsl, Array.size_map]
  have H2 : Has q.SA vs (.int 0) := fun j hj => by
    have hj' : j < units.size := by omega
    rw [hsl, eu]; simp [hj']
  refine ⟨q.sd, q.SA.cls, ⟨q.sC, kz, s1, hfZ, hkz, s3, fun _ => by rw [k3, ← ekS, ekz]⟩, ⟨q.sC, cc, kc', ic, q.fSC, s1, z5, s7, s2, s3, by rw [← hal.assignable]; exact s5', s9⟩, ⟨q.sC, cv, kv', iv, q.fSV, s1, z4, s6, s2, s3, by rw [← hal.assignable]; exact s4', s8⟩,
    ⟨q.SA, ⟨s10, ⟨hst, kb, hkb, comp, by rw [ek9, ekb] at hkind9; exact hkind9⟩, s12⟩, rfl, by rw [hsz, hl, el], hz, H2, fun j hj => ?_⟩⟩
  have e1 := s16 j hj
  rw [SBG.getD_of (H2 j hj)] at e1
  exact e1
end OwnLitRead

/-! ldc_w of a String constant: the three roads of the instruction, the invariant of the constants kept -/
section OwnLdcw
open Jvm.Free.SB Jvm.Free.SBG
variable {p : Program} {l : Launch} {e : Env} {R : Room} {s : State} {m : MethodId} {args : Array Value} {below : List Frame} {meth : Method} {c : Code} {T : State} {locs : List Loc} {cells slots : Nat} {own text : String} {index : Nat}
/-- what ldc_w leaves behind -/
def LwEnd (p : Program) (l : Launch) (e : Env) (R : Room) (s : State) (m : MethodId) (args : Array Value) (below : List Frame) (meth : Method) (c : Code) (T : State) (locs : List Loc) (cells slots n index : Nat) (g : JFrame) (text : String) : Prop :=
  ∃ (a : Addr) (U : State), Stand p l e R (s.setVm U.vm) m args below meth c U locs (cells + 2) (slots + (n + 4)) ∧ s.Since U.vm U.heap.size ∧ (∃ k, U.vm.classes[m.cls]? = some k ∧ k.resolved[index]? = some (some (.string a))) ∧ (∀ y, y < T.heap.size → U.heap[y]? = T.heap[y]?) ∧
    T.Warmed39 U.vm ∧ (U.vm.interned = T.vm.interned ∨ ∃ us : Array UInt16, utf16ToString? us = some text ∧ U.vm.interned = T.vm.interned.push (us, a) ∧ T.vm.interned.find? (fun q => q.1 == us) = none ∧ (us.all (· < 256) = true → SlIn 0 T.heap.size U a us)) ∧
    ∀ target, Steps p.tables e below (U.setTop { g with pc := g.pc + 3, stack := .ref a :: g.stack }) target → Steps p.tables e below (T.setTop g) target
theorem own_lw_found (X : Stand p l e R s m args below meth c T locs cells slots) (hx : p.tables.exec = Jvm.exec) {k k' : Class} {cf : ClassFile} {i : Nat} {us : Array UInt16} {g : JFrame} (hg : g.method = m) (hd : decode c.code g.pc = .ok (.ldc_w index, 3)) (hk : s.vm.classes[m.cls]? = some k) (hk' : T.vm.classes[m.cls]? = some k') (hf : k.cf = some cf) (hf' : k'.cf = some cf)
    (hc : cf.constantPool[index]? = some (.string i)) (hu : cf.constantPool[i]? = some (.utf8 us)) (hn : namesOf? cf.constantPool index = some (.string text)) (ho : k.resolved[index]? = some none) (ho' : k'.resolved[index]? = some none) {a : Addr} (hi : T.vm.interned.find? (fun q => q.1 == us) = some (us, a)) (n : Nat) : LwEnd p l e R s m args below meth c T locs cells slots n index g text := by
  subst hg
  have w0 : s.Warmed39 (T.vm.noted g.method.cls index (.string a)) := X.warmed.wide.notedString hk (Or.inl ho) (by rw [hf]; exact hn) (by rw [hf]; exact hc) (by rw [hf]; simp [ConstantPool.utf8?, hu]) hi
  have w1 : T.Warmed39 (T.vm.noted g.method.cls index (.string a)) := (State.Warmed39.refl T).notedString hk' (Or.inl ho') (by rw [hf']; exact hn) (by rw [hf']; exact hc) (by rw [hf']; simp [ConstantPool.utf8?, hu]) hi
  refine ⟨a, T.setVm (T.vm.noted g.method.cls index (.string a)), (X.mono (by omega) (by omega)).retabled w0, ⟨w0, ?_⟩, ⟨_, Vm.classes_note_self index _ hk', Class.resolved_note_self _ ho'⟩, fun _ _ => rfl, w1, Or.inl rfl, fun target hr => ?_⟩
  · exact State.Booked.step (T₂ := T.setVm (T.vm.noted g.method.cls index (.string a))) (X.warmed.no_new_pair _) X.same.2.1 ⟨Nat.le_refl _, Or.inl rfl⟩
  · jvm_step X.here [hx, hd, ldc_w.wp_string_found (e := e) (s := T) (f := g) X.here.top hk' hf' hc hu ho' hi]
    exact hr
theorem own_lw_new (X : Stand p l e R s m args below meth c T locs cells slots) (hx : p.tables.exec = Jvm.exec) (hS : ∀ a ∈ Bundle.stringAtoms, a.before args s = true) {k k' : Class} {cf : ClassFile} {i : Nat} {us : Array UInt16} {g : JFrame} (hg : g.method = m) (hd : decode c.code g.pc = .ok (.ldc_w index, 3)) (hk : s.vm.classes[m.cls]? = some k) (hk' : T.vm.classes[m.cls]? = some k') (hf : k.cf = some cf) (hf' : k'.cf = some cf)
    (hc : cf.constantPool[index]? = some (.string i)) (hu : cf.constantPool[i]? = some (.utf8 us)) (hn : namesOf? cf.constantPool index = some (.string text)) (ht : utf16ToString? us = some text) (ho : k.resolved[index]? = some none) (ho' : k'.resolved[index]? = some none) (hi : T.vm.interned.find? (fun q => q.1 == us) = none) {n : Nat} (hb : (stringBytes us).size ≤ n) (hbig : n ≤ 536870912) (hcl : cells + 2 ≤ R.cells) (hsl : slots + (n + 4) ≤ R.slots) :
    LwEnd p l e R s m args below meth c T locs cells slots n index g text := by
  subst hg
  obtain ⟨Zs, LZ, n4, fv, fc⟩ := StringT.of_atoms (args := args) hS
  obtain ⟨kS, kB, LY, ty⟩ := LZ.warmer X.warmed.alike
  have fs : T.fitsSlot = s.fitsSlot := (show T.fitsSlot = (s.setVm T.vm).fitsSlot from rfl).trans (State.fitsSlot_setVm X.warmed.alike)
  obtain ⟨V1, e1⟩ : ∃ V1 : Vm, V1 = { T.vm with interned := T.vm.interned.push (us, T.heap.size + 1) } := ⟨_, rfl⟩
  have hp : V1.interned.find? (fun q => q.1 == us) = some (us, T.heap.size + 1) := by
    rw [e1]; show (T.vm.interned.push (us, T.heap.size + 1)).find? _ = _
    rw [Array.find?_push, hi]; simp
  have w0 : s.Warmed39 (V1.noted g.method.cls index (.string (T.heap.size + 1))) := by
    rw [e1] at hp ⊢; exact (X.warmed.wide.interns us (T.heap.size + 1)).notedString hk (Or.inl ho) (by rw [hf]; exact hn) (by rw [hf]; exact hc) (by rw [hf]; simp [ConstantPool.utf8?, hu]) hp
  have w1 : T.Warmed39 (V1.noted g.method.cls index (.string (T.heap.size + 1))) := by
    rw [e1] at hp ⊢; exact ((State.Warmed39.refl T).interns us (T.heap.size + 1)).notedString hk' (Or.inl ho') (by rw [hf']; exact hn) (by rw [hf']; exact hc) (by rw [hf']; simp [ConstantPool.utf8?, hu]) hp
  have Y := (X.pushed (bytesOf Zs.cB us)).pushed (stringAt Zs.cS kS Zs.fv Zs.fc us T.heap.size)
  rw [← withString_eq] at Y
  obtain ⟨W, eW⟩ : ∃ W : State, W = withString T Zs.cB Zs.cS kS Zs.fv Zs.fc us := ⟨_, rfl⟩
  have hh : W.heap = (T.heap.push (bytesOf Zs.cB us)).push (stringAt Zs.cS kS Zs.fv Zs.fc us T.heap.size) := by rw [eW, withString_eq]; rfl
  have sz : W.heap.size = T.heap.size + 2 := by rw [hh]; simp [Array.size_push]
  have at0 : ∀ y, y < T.heap.size → W.heap[y]? = T.heap[y]? := fun y hy => by rw [hh, Array.getElem?_push, if_neg (by rw [Array.size_push]; omega), Array.getElem?_push, if_neg (by omega)]
  have at1 : W.heap[T.heap.size]? = some (bytesOf Zs.cB us) := by rw [hh, Array.getElem?_push, if_neg (by rw [Array.size_push]; omega), Array.getElem?_push, if_pos rfl]
  have at2 : W.heap[T.heap.size + 1]? = some (stringAt Zs.cS kS Zs.fv Zs.fc us T.heap.size) := by rw [hh, Array.getElem?_push, if_pos (by rw [Array.size_push])]
  have s1 : (bytesOf Zs.cB us).slots.size = (stringBytes us).size := by rw [(Cell.writeAll_facts _ _).2.2]; simp [bytes0]
  have s2 : (stringAt Zs.cS kS Zs.fv Zs.fc us T.heap.size).slots.size = 4 := by simp [string0, Cell.setSlot, ty, n4]
  have one : T.Interned1 (W.setVm (V1.noted g.method.cls index (.string (T.heap.size + 1)))) := ⟨by show T.heap.size ≤ W.heap.size; omega, Or.inr ⟨us, T.heap.size + 1, by rw [e1]; rfl, by omega, by show T.heap.size + 1 < W.heap.size; omega⟩⟩
  rw [← eW] at Y
  refine ⟨T.heap.size + 1, W.setVm (V1.noted g.method.cls index (.string (T.heap.size + 1))), (Y.mono (by omega) (by rw [s1, s2]; omega)).retabled w0, ⟨w0, State.Booked.step (X.warmed.no_new_pair _) X.same.2.1 one⟩, ?_, at0, w1, Or.inr ⟨us, ht, by rw [e1]; rfl, hi, fun hl => made_sl hS LZ n4 ty w0.alike (show (W.setVm (V1.noted g.method.cls index (.string (T.heap.size + 1)))).heap[T.heap.size]? = some (bytesOf Zs.cB us) from at1) (show (W.setVm (V1.noted g.method.cls index (.string (T.heap.size + 1)))).heap[T.heap.size + 1]? = some (stringAt Zs.cS kS Zs.fv Zs.fc us T.heap.size) from at2) hl (by omega) 0⟩, fun target hr => ?_⟩
  · subst e1; exact ⟨_, Vm.classes_note_self (vm := { T.vm with interned := T.vm.interned.push (us, T.heap.size + 1) }) index _ hk', Class.resolved_note_self _ ho'⟩
  · subst e1 eW
    refine Steps.instr (c := _) (by simpa using X.here) ?_
    simp [jvm, wpRun, exec, X.here.top, hx, hd]
    refine ldc_w.wp_string_new (e := e) (s := T) (f := g) X.here.top hk' hf' hc hu ho' hi LY.found LY.cls LY.initialized LY.ordinary LY.foundB LY.clsB LY.kindB LY.value LY.coder ?_ ?_ (X.cellsAbove hcl) ?_ (stringBytes_fit LY.clsB LY.kindB us) LY.valueSlot LY.coderSlot (by rw [fs]; exact fv _) (by rw [fs]; exact fc _) (fun d' acts' => ?_)
    · rw [Launch.admits_arrayLengthLimit X.admits]; omega
    · rw [Launch.admits_maxHeapBytes X.admits]; simp only [componentBytes]; omega
    · have := X.slotsAbove hsl
      show T.slotsUsed + (stringBytes us).size + kS.instanceTypes.size ≤ _
      rw [ty, n4]; omega
    · intro acts''
      have q1 : (withString T Zs.cB Zs.cS kS Zs.fv Zs.fc us).topJava?.isSome := by simpa [withString] using X.here.top
      have q2 : ((withString T Zs.cB Zs.cS kS Zs.fv Zs.fc us).setVm (({ T.vm with interned := T.vm.interned.push (us, T.heap.size + 1) } : Vm).noted g.method.cls index (.string (T.heap.size + 1)))).topJava?.isSome := by simpa using q1
      simp [jvm, afterInstr, q1, q2]
      rw [State.modifyTopJava_setTop]
      exact hr
theorem own_lw (X : Stand p l e R s m args below meth c T locs cells slots) (hx : p.tables.exec = Jvm.exec) (hown : s.vm.findClass own = some m.cls) (w : (Cond.stringLink own index text).before args s = true) (hS : ∀ a ∈ Bundle.stringAtoms, a.before args s = true) {g : JFrame} (hg : g.method = m) (hd : decode c.code g.pc = .ok (.ldc_w index, 3)) {n : Nat} (hn : 4 * text.toList.length ≤ n) (hbig : n ≤ 536870912) (hcl : cells + 2 ≤ R.cells) (hsl : slots + (n + 4) ≤ R.slots) : LwEnd p l e R s m args below meth c T locs cells slots n index g text := by
  obtain ⟨k, cf, i, us, hk, hf, hc, hu, hnm, ht, hres⟩ := Cond.stringLink_spec hown w
  obtain ⟨k', hk', ek⟩ := X.warmed.alike.2.2 _ _ hk
  have hf' : k'.cf = some cf := by rw [ek]; exact hf
  by_cases hr : ∃ a, k'.resolved[index]? = some (some (.string a))
  · obtain ⟨a, hr⟩ := hr
    subst hg
    refine ⟨a, T, (X.mono (by omega) (by omega)).retabled X.warmed.wide, X.warmed.since _, ⟨k', hk', hr⟩, fun _ _ => rfl, State.Warmed39.refl T, Or.inl rfl, fun target ht => ?_⟩
    jvm_step X.here [hx, hd, ldc_w.wp_string (e := e) (s := T) (f := g) X.here.top hk' hf' hc hr]
    exact ht
  · have ho : k'.resolved[index]? = some none ∧ k.resolved[index]? = some none := by
      rcases X.warmed.wide.entry hk hk' index with e0 | ⟨-, r, e1, q | ⟨a, t, rfl, -⟩⟩
      · rcases hres with q | ⟨a, q⟩
        · exact ⟨e0.trans q, q⟩
        · exact absurd ⟨a, e0.trans q⟩ hr
      · exfalso; cases r <;> simp [State.rightAt, hk, hf, hnm] at q
      · exact absurd ⟨a, e1⟩ hr
    cases hi : T.vm.interned.find? (fun q => q.1 == us) with
    | some pr =>
      obtain ⟨u, a⟩ := pr
      obtain rfl : u = us := by have := Array.find?_some hi; simpa using this
      exact own_lw_found X hx hg hd hk hk' hf hf' hc hu hnm ho.2 ho.1 hi n
    | none => exact own_lw_new X hx hS hg hd hk hk' hf hf' hc hu hnm ht ho.2 ho.1 hi (Nat.le_trans (text_bytes_le ht) hn) hbig hcl hsl
/-- ldc_w of a constant of EL, read -/
theorem own_ldcw {Z : State} {a0 : Array Value} {EL : List (String × Nat)} {h : Heap} {vm0 : Vm} (X : Stand p l e R (s.setVm vm0) m args below meth c T locs cells slots) (hx : p.tables.exec = Jvm.exec) (hZ : Z.Warmed39 vm0) (hown : vm0.findClass own = some m.cls) (w : (Cond.stringLink own index text).before a0 Z = true) (wS : ∀ a ∈ Bundle.stringAtoms, a.before a0 Z = true)
    (eT : T.heap = h) {k0 : Nat} (hS : s.Since vm0 k0) (hk : k0 ≤ h.size) (hEL : EW Z a0 EL) (H : CHv Z EL vm0 h) {g : JFrame} (hg : g.method = m) (hd : decode c.code g.pc = .ok (.ldc_w index, 3)) {n : Nat} (hn : 4 * text.toList.length ≤ n) (hbig : n ≤ 536870912) (hc : cells + 2 ≤ R.cells) (hl : slots + (n + 4) ≤ R.slots) :
    ∃ (a : Addr) (T' : State) (h' : Heap) (k1 : Nat), Stand p l e R (s.setVm T'.vm) m args below meth c T' locs (cells + 2) (slots + (n + 4)) ∧ T'.heap = h' ∧ Ext h h' ∧ s.Since T'.vm k1 ∧ k1 ≤ h'.size ∧ Z.Warmed39 (s.setVm T'.vm).vm ∧ (s.setVm T'.vm).vm.findClass own = some m.cls ∧ CHr Z EL vm0 h T'.vm h' ∧ Lit (s.setVm T'.vm) own index a ∧
      ∀ target, Steps p.tables e below (T'.setTop { g with pc := g.pc + 3, stack := .ref a :: g.stack }) target → Steps p.tables e below (T.setTop g) target := by
  have hA : ∀ a ∈ Bundle.stringAtoms, a.before args (s.setVm vm0) = true := fun d hd => by
    have q := wS d hd
    simp only [Bundle.stringAtoms, List.mem_cons, List.not_mem_nil, or_false] at hd
    rcases hd with rfl | rfl | rfl | rfl | rfl | rfl | rfl
    · exact mv (s := s.setVm vm0) hZ q
    · exact mv (s := s.setVm vm0) hZ q
    · exact mvA (s := s.setVm vm0) hZ q
    · exact mv (s := s.setVm vm0) hZ q
    · exact mv (s := s.setVm vm0) hZ q
    · exact mv (s := s.setVm vm0) hZ q
    · exact mv (s := s.setVm vm0) hZ q
  obtain ⟨a, U, X', hS', ⟨kk, h1, h2⟩, hb, hTW, hint, st⟩ := own_lw X hx hown (mvS hZ w) hA hg hd hn hbig hc hl
  subst eT
  have E := ext_of hb
  have A := CHv.at X hZ hEL H
  have B := CHv.later (vm := T.vm) (vm1 := U.vm) (wtrans (s := s.setVm vm0) hZ X.warmed) (show (Wst Z T.vm T.heap).Warmed39 U.vm from hTW) hEL E (hint.imp id fun ⟨us, _, e1, e2, e3⟩ => ⟨us, a, e1, e2, fun hl => by
    obtain ⟨q, cS, hq, r1, r2, r3, r4, r5⟩ := e3 hl
    have F : SlB U q us := ⟨cS, r1, r2, r3, r4⟩
    refine ⟨q, hq, F.carry (V := Wst Z U.vm U.heap) (Vm.Alike.refl _) F.ha F.hd, ?_⟩
    rcases r5 with ⟨z, -⟩ | z
    · exact absurd z (Nat.not_lt_zero _)
    · exact z⟩) A.1
  have hf : U.vm.findClass own = some m.cls := by rw [hS'.1.alike.findClass]; exact hown
  exact ⟨a, U, _, _, X', rfl, E, hS.trans hS' (Nat.le_trans hk E.1), Nat.le_refl _, State.Warmed39.trans (t := s.setVm vm0) hZ hS'.1, hf, A.trans ⟨B.1, E.1, B.2⟩, by simp [Lit, State.resolvedAt?, hf, h1, h2], st⟩
end OwnLdcw

theorem dj39_0 : decode jc39 0 = .ok (.getstatic 44, 3) := by decide +kernel
theorem dj39_3 : decode jc39 3 = .ok (.ifCond .ne 25, 3) := by decide +kernel
theorem dj39_28 : decode jc39 28 = .ok (.iload_n 1, 1) := by decide +kernel
theorem dj39_29 : decode jc39 29 = .ok (.iconst 1, 1) := by decide +kernel
theorem dj39_30 : decode jc39 30 = .ok (.ishl, 1) := by decide +kernel
theorem dj39_31 : decode jc39 31 = .ok (.istore_n 1, 1) := by decide +kernel
theorem dj39_32 : decode jc39 32 = .ok (.aload_n 0, 1) := by decide +kernel
theorem dj39_33 : decode jc39 33 = .ok (.iload_n 1, 1) := by decide +kernel
theorem dj39_34 : decode jc39 34 = .ok (.iinc 1 1, 3) := by decide +kernel
theorem dj39_37 : decode jc39 37 = .ok (.baload, 1) := by decide +kernel
theorem dj39_38 : decode jc39 38 = .ok (.sipush 255, 3) := by decide +kernel
theorem dj39_41 : decode jc39 41 = .ok (.iand, 1) := by decide +kernel
theorem dj39_42 : decode jc39 42 = .ok (.getstatic 59, 3) := by decide +kernel
theorem dj39_45 : decode jc39 45 = .ok (.ishl, 1) := by decide +kernel
theorem dj39_46 : decode jc39 46 = .ok (.aload_n 0, 1) := by decide +kernel
theorem dj39_47 : decode jc39 47 = .ok (.iload_n 1, 1) := by decide +kernel
theorem dj39_48 : decode jc39 48 = .ok (.baload, 1) := by decide +kernel
theorem dj39_49 : decode jc39 49 = .ok (.sipush 255, 3) := by decide +kernel
theorem dj39_52 : decode jc39 52 = .ok (.iand, 1) := by decide +kernel
theorem dj39_53 : decode jc39 53 = .ok (.getstatic 63, 3) := by decide +kernel
theorem dj39_56 : decode jc39 56 = .ok (.ishl, 1) := by decide +kernel
theorem dj39_57 : decode jc39 57 = .ok (.ior, 1) := by decide +kernel
theorem dj39_58 : decode jc39 58 = .ok (.i2c, 1) := by decide +kernel
theorem dj39_59 : decode jc39 59 = .ok (.ireturn, 1) := by decide +kernel
theorem pn_java_lang_StringUTF16 : plainName "java/lang/StringUTF16" = true := by first | (simp [plainName, overriddenIn]; done) | decide +kernel
theorem ef_gch (mi : MethodId) (t : Addr) (j : Int32) : entryFrame mi #[(.ref t), (.int j)] 2 = mkF mi 0 #[.val (.ref t), .val (.int j)] [] := rfl
def Q_gch (Z : State) (t : Addr) (j : Int32) (kt : ClassId) (cs : List Int32) (i : Nat) (hE : Heap) (n0 : Nat) (vv : Option Value) (hh : Heap) (LL : List Loc) : Prop := (vv = some (.int (cs.getD i 0))) ∧ (Fr n0 LL) ∧ (hh = hE)
theorem rm_gch (hw : HW a0 Z) (ws : List Cond) (t : Addr) (j : Int32) (kt : ClassId) (cs : List Int32) (i : Nat) (hE : Heap) (n0 : Nat) (O : Old Z n0 hE) (P0_ : Arv Z hE t kt .byte (Int32.ofNat (2 * cs.length)) (StrChars.Road.wideBytes cs) (.int 0)) (D0_ : Sta Z Z.heap c1_ c6_ "Z" (.int 1)) (D1_ : Sta Z Z.heap c1_ c9_ "I" (.int 0)) (D2_ : Sta Z Z.heap c1_ c10_ "I" (.int 8)) (hj : j = Int32.ofNat i) (hi : i < cs.length) (hl : cs.length ≤ 4000) (hbd : ∀ c ∈ cs, ¬ c < 0 ∧ ¬ (65535 : Int32) < c) :
    MF la Z hE mn0 jc39 2 (some .char) ws (rr 0 0 0 0) #[(.ref t), (.int j)] (Q_gch Z t j kt cs i hE n0) := by
  refine MetFree.of_bodySF (plainFor_of_name pn_java_lang_StringUTF16) hisR ?_
  intro pg ev sb mi gs below me cd s₁ Bd hml0 hPt hKt
  obtain ⟨rfl, hZ, hh⟩ := hPt
  have hx := Bd.exec
  have hby := Bd.bytes
  have hml : cd.maxLocals = 2 := hml0
  have hown : sb.vm.findClass c1_ = some mi.cls := findClass_of_methodNamed Bd.named
  have X0 : Stand pg la ev (rr 0 0 0 0) sb mi #[(.ref t), (.int j)] below me cd s₁ [] 0 0 := Stand.of_body Bd
  have eE : s₁.heap = hE := by rw [← hh, Bd.state]; rfl
  have N0 := Fr.nil n0
  have pre0 : ∀ tt, SP pg ev below (s₁.setTop (mkF mi 0 #[.val (.ref t), .val (.int j)] [])) tt → SP pg ev below (s₁.setTop (entryFrame mi #[(.ref t), (.int j)] 2)) tt := fun tt kk => castTop (ef_gch mi t j) kk
  obtain ⟨T101, X101, e101, st101⟩ := getS2 X0 hx hZ hown (host := "") (Or.inl (wd163 hw)) Via.refl eE (D0_.ext O.2) (g := (mkF mi 0 #[.val (.ref t), .val (.int j)] [])) rfl (hb hby dj39_0)
  have pre102 : ∀ tt, SP pg ev below (T101.setTop (mkF mi 31 #[.val (.ref t), .val (.int j)] [(.int (j <<< ((1 : Int32) &&& 31)))])) tt → SP pg ev below (s₁.setTop (entryFrame mi #[(.ref t), (.int j)] 2)) tt := fun tt kk => pre0 _ (by
    show SP pg ev below (s₁.setTop (mkF mi 0 #[.val (.ref t), .val (.int j)] [])) _
    refine st101 _ ?_
    refine XS.ifYes X101.here hx rfl (pc0 := 3) (pc' := 28) rfl (hb hby dj39_3) rfl ((if0 _ _).trans (feq (by decide : ¬ ((1 : Int32) = (0 : Int32)))).2) (by decide) (by decide) ?_
    refine XS.iloadN X101.here hx rfl (hb hby dj39_28) rfl ?_
    refine XS.iconst X101.here hx rfl (hb hby dj39_29) ?_
    refine XS.ishl X101.here hx rfl (hb hby dj39_30) rfl ?_
    exact kk)
  have pre103 : ∀ tt, SP pg ev below (T101.setTop (mkF mi 31 #[.val (.ref t), .val (.int j)] [(.int (Int32.ofNat (2 * i)))])) tt → SP pg ev below (s₁.setTop (entryFrame mi #[(.ref t), (.int j)] 2)) tt := fun tt kk => pre102 tt (by rw [show j <<< ((1 : Int32) &&& 31) = Int32.ofNat (2 * i) from by rw [hj]; exact own_shl1 (by omega)]; exact kk)
  have pre104 : ∀ tt, SP pg ev below (T101.setTop (mkF mi 37 #[.val (.ref t), .val (.int ((Int32.ofNat (2 * i)) + (1 : Int32)))] [(.int (Int32.ofNat (2 * i))), (.ref t)])) tt → SP pg ev below (s₁.setTop (entryFrame mi #[(.ref t), (.int j)] 2)) tt := fun tt kk => pre103 _ (by
    show SP pg ev below (T101.setTop (mkF mi 31 #[.val (.ref t), .val (.int j)] [(.int (Int32.ofNat (2 * i)))])) _
    refine XS.istoreN X101.here hx rfl (hb hby dj39_31) rfl (l' := #[.val (.ref t), .val (.int (Int32.ofNat (2 * i)))]) rfl ?_
    refine XS.aloadN X101.here hx rfl (hb hby dj39_32) rfl rfl ?_
    refine XS.iloadN X101.here hx rfl (hb hby dj39_33) rfl ?_
    refine XS.iinc X101.here hx rfl (hb hby dj39_34) rfl (l' := #[.val (.ref t), .val (.int ((Int32.ofNat (2 * i)) + (1 : Int32)))]) rfl ?_
    exact kk)
  have pre105 : ∀ tt, SP pg ev below (T101.setTop (mkF mi 37 #[.val (.ref t), .val (.int (Int32.ofNat (2 * i + 1)))] [(.int (Int32.ofNat (2 * i))), (.ref t)])) tt → SP pg ev below (s₁.setTop (entryFrame mi #[(.ref t), (.int j)] 2)) tt := fun tt kk => pre104 tt (by rw [show (Int32.ofNat (2 * i)) + (1 : Int32) = Int32.ofNat (2 * i + 1) from own_add32 (2 * i) 1]; exact kk)
  obtain ⟨cl106, Ar106, -, Sz106, Nn106, Hh106, -⟩ := id P0_
  have hin106 : ¬ ((Int32.ofNat (2 * i)) < 0 ∨ cl106.slots.size ≤ ((Int32.ofNat (2 * i))).toNatClampNeg) := inb_of Sz106 (own_w0 (by omega) (by omega))
  have hat106 : cl106.slots[((Int32.ofNat (2 * i))).toNatClampNeg]? = some (.int (StrChars.lo8 (cs.getD i 0))) := Hh106.at hin106 (by rw [own_wn (by omega)]; exact StrChars.Road.wide_lo _ cs i hi)
  obtain ⟨T107, X107, e107, st107⟩ := getS2 X101 hx hZ hown (host := "") (Or.inl (wd164 hw)) Via.refl e101 (D1_.ext O.2) (g := (mkF mi 42 #[.val (.ref t), .val (.int (Int32.ofNat (2 * i + 1)))] [(.int ((StrChars.lo8 (cs.getD i 0)) &&& (255 : Int32)))])) rfl (hb hby dj39_42)
  obtain ⟨cl108, Ar108, -, Sz108, Nn108, Hh108, -⟩ := id P0_
  have hin108 : ¬ ((Int32.ofNat (2 * i + 1)) < 0 ∨ cl108.slots.size ≤ ((Int32.ofNat (2 * i + 1))).toNatClampNeg) := inb_of Sz108 (own_w0 (by omega) (by omega))
  have hat108 : cl108.slots[((Int32.ofNat (2 * i + 1))).toNatClampNeg]? = some (.int (StrChars.hi8 (cs.getD i 0))) := Hh108.at hin108 (by rw [own_wn (by omega)]; exact StrChars.Road.wide_hi _ cs i hi)
  obtain ⟨T109, X109, e109, st109⟩ := getS2 X107 hx hZ hown (host := "") (Or.inl (wd165 hw)) Via.refl e107 (D2_.ext O.2) (g := (mkF mi 53 #[.val (.ref t), .val (.int (Int32.ofNat (2 * i + 1)))] [(.int ((StrChars.hi8 (cs.getD i 0)) &&& (255 : Int32))), (.int (((StrChars.lo8 (cs.getD i 0)) &&& (255 : Int32)) <<< ((0 : Int32) &&& 31)))])) rfl (hb hby dj39_53)
  obtain ⟨fs, hr, hrun, hended, hW, hsame⟩ := X109.leave (v := some (.int (nar .char (((((StrChars.lo8 (cs.getD i 0)) &&& (255 : Int32)) <<< ((0 : Int32) &&& 31)) ||| (((StrChars.hi8 (cs.getD i 0)) &&& (255 : Int32)) <<< ((8 : Int32) &&& 31))).toUInt32.toUInt16.toUInt32.toInt32)))) (fun hq => by rw [Bd.returns] at hq; cases hq)
  refine ⟨_, _, pre105 _ ?_, hrun, hended, _, _, rfl, ?_, ⟨_, rfl⟩, hW, hsame.mono (by decide) (by decide)⟩
  · show SP pg ev below (T101.setTop (mkF mi 37 #[.val (.ref t), .val (.int (Int32.ofNat (2 * i + 1)))] [(.int (Int32.ofNat (2 * i))), (.ref t)])) _
    refine X101.baloadBytes hx (j := (Int32.ofNat (2 * i))) (v := (.int (StrChars.lo8 (cs.getD i 0)))) (by rw [e101]; exact Ar106.1) (State.isArrayOf_alike hZ.alike Ar106.2.1) Ar106.2.2 hin106 hat106 (g := (mkF mi 37 #[.val (.ref t), .val (.int (Int32.ofNat (2 * i + 1)))] [(.int (Int32.ofNat (2 * i))), (.ref t)])) rfl rfl (hb hby dj39_37) _ ?_
    refine XS.sipush X101.here hx rfl (hb hby dj39_38) ?_
    refine XS.iand X101.here hx rfl (hb hby dj39_41) rfl ?_
    refine st107 _ ?_
    refine XS.ishl X107.here hx rfl (hb hby dj39_45) rfl ?_
    refine XS.aloadN X107.here hx rfl (hb hby dj39_46) rfl rfl ?_
    refine XS.iloadN X107.here hx rfl (hb hby dj39_47) rfl ?_
    refine X107.baloadBytes hx (j := (Int32.ofNat (2 * i + 1))) (v := (.int (StrChars.hi8 (cs.getD i 0)))) (by rw [e107]; exact Ar108.1) (State.isArrayOf_alike hZ.alike Ar108.2.1) Ar108.2.2 hin108 hat108 (g := (mkF mi 48 #[.val (.ref t), .val (.int (Int32.ofNat (2 * i + 1)))] [(.int (Int32.ofNat (2 * i + 1))), (.ref t), (.int (((StrChars.lo8 (cs.getD i 0)) &&& (255 : Int32)) <<< ((0 : Int32) &&& 31)))])) rfl rfl (hb hby dj39_48) _ ?_
    refine XS.sipush X107.here hx rfl (hb hby dj39_49) ?_
    refine XS.iand X107.here hx rfl (hb hby dj39_52) rfl ?_
    refine st109 _ ?_
    refine XS.ishl X109.here hx rfl (hb hby dj39_56) rfl ?_
    refine XS.ior X109.here hx rfl (hb hby dj39_57) rfl ?_
    refine XS.i2c X109.here hx rfl (hb hby dj39_58) rfl ?_
    show SP pg ev below (T109.setTop (mkF mi 59 #[.val (.ref t), .val (.int (Int32.ofNat (2 * i + 1)))] [(.int (((((StrChars.lo8 (cs.getD i 0)) &&& (255 : Int32)) <<< ((0 : Int32) &&& 31)) ||| (((StrChars.hi8 (cs.getD i 0)) &&& (255 : Int32)) <<< ((8 : Int32) &&& 31))).toUInt32.toUInt16.toUInt32.toInt32))])) _
    exact retN X109 hx (t := .char) Bd.returns (by simp) (hb hby dj39_59) hr
  · show Q_gch Z t j kt cs i hE n0 _ T109.heap _
    rw [e109]
    exact ⟨(congrArg (fun z => some (Value.int z)) (own_gch (hbd _ (own_getD_mem hi)))), N0, rfl⟩
theorem dj40_0 : decode jc40 0 = .ok (.getstatic 44, 3) := by decide +kernel
theorem dj40_3 : decode jc40 3 = .ok (.ifCond .ne 25, 3) := by decide +kernel
theorem dj40_28 : decode jc40 28 = .ok (.iload_n 1, 1) := by decide +kernel
theorem dj40_29 : decode jc40 29 = .ok (.iconst 1, 1) := by decide +kernel
theorem dj40_30 : decode jc40 30 = .ok (.ishl, 1) := by decide +kernel
theorem dj40_31 : decode jc40 31 = .ok (.istore_n 1, 1) := by decide +kernel
theorem dj40_32 : decode jc40 32 = .ok (.aload_n 0, 1) := by decide +kernel
theorem dj40_33 : decode jc40 33 = .ok (.iload_n 1, 1) := by decide +kernel
theorem dj40_34 : decode jc40 34 = .ok (.iinc 1 1, 3) := by decide +kernel
theorem dj40_37 : decode jc40 37 = .ok (.iload_n 2, 1) := by decide +kernel
theorem dj40_38 : decode jc40 38 = .ok (.getstatic 59, 3) := by decide +kernel
theorem dj40_41 : decode jc40 41 = .ok (.ishr, 1) := by decide +kernel
theorem dj40_42 : decode jc40 42 = .ok (.i2b, 1) := by decide +kernel
theorem dj40_43 : decode jc40 43 = .ok (.bastore, 1) := by decide +kernel
theorem dj40_44 : decode jc40 44 = .ok (.aload_n 0, 1) := by decide +kernel
theorem dj40_45 : decode jc40 45 = .ok (.iload_n 1, 1) := by decide +kernel
theorem dj40_46 : decode jc40 46 = .ok (.iload_n 2, 1) := by decide +kernel
theorem dj40_47 : decode jc40 47 = .ok (.getstatic 63, 3) := by decide +kernel
theorem dj40_50 : decode jc40 50 = .ok (.ishr, 1) := by decide +kernel
theorem dj40_51 : decode jc40 51 = .ok (.i2b, 1) := by decide +kernel
theorem dj40_52 : decode jc40 52 = .ok (.bastore, 1) := by decide +kernel
theorem dj40_53 : decode jc40 53 = .ok (.return_, 1) := by decide +kernel
theorem ef_pch (mi : MethodId) (t : Addr) (j : Int32) (c : Int32) : entryFrame mi #[(.ref t), (.int j), (.int c)] 3 = mkF mi 0 #[.val (.ref t), .val (.int j), .val (.int c)] [] := rfl
def Q_pch (Z : State) (t : Addr) (j c : Int32) (kt : ClassId) (vs : List Value) (i m : Nat) (hE : Heap) (n0 : Nat) (vv : Option Value) (hh : Heap) (LL : List Loc) : Prop := (vv = none) ∧ (Fr n0 LL) ∧ (Keep hE hh [t]) ∧ (Arv Z hh t kt .byte (Int32.ofNat m) ((vs.set (2 * i) (.int (StrChars.lo8 c))).set (2 * i + 1) (.int (StrChars.hi8 c))) (.int 0))
theorem rm_pch (hw : HW a0 Z) (ws : List Cond) (t : Addr) (j c : Int32) (kt : ClassId) (vs : List Value) (i m : Nat) (hE : Heap) (n0 : Nat) (O : Old Z n0 hE) (P0_ : Arv Z hE t kt .byte (Int32.ofNat m) vs (.int 0)) (D0_ : Sta Z Z.heap c1_ c6_ "Z" (.int 1)) (D1_ : Sta Z Z.heap c1_ c9_ "I" (.int 0)) (D2_ : Sta Z Z.heap c1_ c10_ "I" (.int 8)) (g_t : n0 ≤ t) (hj : j = Int32.ofNat i) (hi : 2 * i + 1 < m) (hm : vs.length = m) (hl : m ≤ 8000) :
    MF la Z hE mn1 jc40 3 none ws (rr 0 0 0 0) #[(.ref t), (.int j), (.int c)] (Q_pch Z t j c kt vs i m hE n0) := by
  refine MetFree.of_bodySF (plainFor_of_name pn_java_lang_StringUTF16) hisR ?_
  intro pg ev sb mi gs below me cd s₁ Bd hml0 hPt hKt
  obtain ⟨rfl, hZ, hh⟩ := hPt
  have hx := Bd.exec
  have hby := Bd.bytes
  have hml : cd.maxLocals = 3 := hml0
  have hown : sb.vm.findClass c1_ = some mi.cls := findClass_of_methodNamed Bd.named
  have X0 : Stand pg la ev (rr 0 0 0 0) sb mi #[(.ref t), (.int j), (.int c)] below me cd s₁ [] 0 0 := Stand.of_body Bd
  have eE : s₁.heap = hE := by rw [← hh, Bd.state]; rfl
  have N0 := Fr.nil n0
  have pre0 : ∀ tt, SP pg ev below (s₁.setTop (mkF mi 0 #[.val (.ref t), .val (.int j), .val (.int c)] [])) tt → SP pg ev below (s₁.setTop (entryFrame mi #[(.ref t), (.int j), (.int c)] 3)) tt := fun tt kk => castTop (ef_pch mi t j c) kk
  obtain ⟨T101, X101, e101, st101⟩ := getS2 X0 hx hZ hown (host := "") (Or.inl (wd163 hw)) Via.refl eE (D0_.ext O.2) (g := (mkF mi 0 #[.val (.ref t), .val (.int j), .val (.int c)] [])) rfl (hb hby dj40_0)
  have pre102 : ∀ tt, SP pg ev below (T101.setTop (mkF mi 31 #[.val (.ref t), .val (.int j), .val (.int c)] [(.int (j <<< ((1 : Int32) &&& 31)))])) tt → SP pg ev below (s₁.setTop (entryFrame mi #[(.ref t), (.int j), (.int c)] 3)) tt := fun tt kk => pre0 _ (by
    show SP pg ev below (s₁.setTop (mkF mi 0 #[.val (.ref t), .val (.int j), .val (.int c)] [])) _
    refine st101 _ ?_
    refine XS.ifYes X101.here hx rfl (pc0 := 3) (pc' := 28) rfl (hb hby dj40_3) rfl ((if0 _ _).trans (feq (by decide : ¬ ((1 : Int32) = (0 : Int32)))).2) (by decide) (by decide) ?_
    refine XS.iloadN X101.here hx rfl (hb hby dj40_28) rfl ?_
    refine XS.iconst X101.here hx rfl (hb hby dj40_29) ?_
    refine XS.ishl X101.here hx rfl (hb hby dj40_30) rfl ?_
    exact kk)
  have pre103 : ∀ tt, SP pg ev below (T101.setTop (mkF mi 31 #[.val (.ref t), .val (.int j), .val (.int c)] [(.int (Int32.ofNat (2 * i)))])) tt → SP pg ev below (s₁.setTop (entryFrame mi #[(.ref t), (.int j), (.int c)] 3)) tt := fun tt kk => pre102 tt (by rw [show j <<< ((1 : Int32) &&& 31) = Int32.ofNat (2 * i) from by rw [hj]; exact own_shl1 (by omega)]; exact kk)
  have pre104 : ∀ tt, SP pg ev below (T101.setTop (mkF mi 37 #[.val (.ref t), .val (.int ((Int32.ofNat (2 * i)) + (1 : Int32))), .val (.int c)] [(.int (Int32.ofNat (2 * i))), (.ref t)])) tt → SP pg ev below (s₁.setTop (entryFrame mi #[(.ref t), (.int j), (.int c)] 3)) tt := fun tt kk => pre103 _ (by
    show SP pg ev below (T101.setTop (mkF mi 31 #[.val (.ref t), .val (.int j), .val (.int c)] [(.int (Int32.ofNat (2 * i)))])) _
    refine XS.istoreN X101.here hx rfl (hb hby dj40_31) rfl (l' := #[.val (.ref t), .val (.int (Int32.ofNat (2 * i))), .val (.int c)]) rfl ?_
    refine XS.aloadN X101.here hx rfl (hb hby dj40_32) rfl rfl ?_
    refine XS.iloadN X101.here hx rfl (hb hby dj40_33) rfl ?_
    refine XS.iinc X101.here hx rfl (hb hby dj40_34) rfl (l' := #[.val (.ref t), .val (.int ((Int32.ofNat (2 * i)) + (1 : Int32))), .val (.int c)]) rfl ?_
    exact kk)
  have pre105 : ∀ tt, SP pg ev below (T101.setTop (mkF mi 37 #[.val (.ref t), .val (.int (Int32.ofNat (2 * i + 1))), .val (.int c)] [(.int (Int32.ofNat (2 * i))), (.ref t)])) tt → SP pg ev below (s₁.setTop (entryFrame mi #[(.ref t), (.int j), (.int c)] 3)) tt := fun tt kk => pre104 tt (by rw [show (Int32.ofNat (2 * i)) + (1 : Int32) = Int32.ofNat (2 * i + 1) from own_add32 (2 * i) 1]; exact kk)
  obtain ⟨T106, X106, e106, st106⟩ := getS2 X101 hx hZ hown (host := "") (Or.inl (wd164 hw)) Via.refl e101 (D1_.ext O.2) (g := (mkF mi 38 #[.val (.ref t), .val (.int (Int32.ofNat (2 * i + 1))), .val (.int c)] [(.int c), (.int (Int32.ofNat (2 * i))), (.ref t)])) rfl (hb hby dj40_38)
  obtain ⟨T107, h107, L107, X107, e107, N107, Kq107, f107, st107⟩ := own_sb X106 hx hZ e106 P0_ (2 * i) (c := ((c >>> ((0 : Int32) &&& 31)).toInt8.toInt32)) (w := (StrChars.lo8 c)) (j := (Int32.ofNat (2 * i))) (own_pc0 c) (own_wn (by omega)) (own_w0 (by omega) (by omega)) (by first | omega | (simp only [List.length_set]; omega)) N0 g_t (g := (mkF mi 43 #[.val (.ref t), .val (.int (Int32.ofNat (2 * i + 1))), .val (.int c)] [(.int ((c >>> ((0 : Int32) &&& 31)).toInt8.toInt32)), (.int (Int32.ofNat (2 * i))), (.ref t)])) rfl rfl (hb hby dj40_43)
  have O108 : Old Z n0 h107 := (O.keep Kq107 (allS g_t all0))
  obtain ⟨T109, X109, e109, st109⟩ := getS2 X107 hx hZ hown (host := "") (Or.inl (wd165 hw)) Via.refl e107 (D2_.ext O108.2) (g := (mkF mi 47 #[.val (.ref t), .val (.int (Int32.ofNat (2 * i + 1))), .val (.int c)] [(.int c), (.int (Int32.ofNat (2 * i + 1))), (.ref t)])) rfl (hb hby dj40_47)
  obtain ⟨T110, h110, L110, X110, e110, N110, Kq110, f110, st110⟩ := own_sb X109 hx hZ e109 f107 (2 * i + 1) (c := ((c >>> ((8 : Int32) &&& 31)).toInt8.toInt32)) (w := (StrChars.hi8 c)) (j := (Int32.ofNat (2 * i + 1))) (own_pc8 c) (own_wn (by omega)) (own_w0 (by omega) (by omega)) (by first | omega | (simp only [List.length_set]; omega)) N107 g_t (g := (mkF mi 52 #[.val (.ref t), .val (.int (Int32.ofNat (2 * i + 1))), .val (.int c)] [(.int ((c >>> ((8 : Int32) &&& 31)).toInt8.toInt32)), (.int (Int32.ofNat (2 * i + 1))), (.ref t)])) rfl rfl (hb hby dj40_52)
  obtain ⟨fs, hr, hrun, hended, hW, hsame⟩ := X110.leave (v := none) (fun _ => rfl)
  refine ⟨_, _, pre105 _ ?_, hrun, hended, _, _, rfl, ?_, ⟨_, rfl⟩, hW, hsame.mono (by decide) (by decide)⟩
  · show SP pg ev below (T101.setTop (mkF mi 37 #[.val (.ref t), .val (.int (Int32.ofNat (2 * i + 1))), .val (.int c)] [(.int (Int32.ofNat (2 * i))), (.ref t)])) _
    refine XS.iloadN X101.here hx rfl (hb hby dj40_37) rfl ?_
    refine st106 _ ?_
    refine XS.ishr X106.here hx rfl (hb hby dj40_41) rfl ?_
    refine XS.i2b X106.here hx rfl (hb hby dj40_42) rfl ?_
    refine st107 _ ?_
    refine XS.aloadN X107.here hx rfl (hb hby dj40_44) rfl rfl ?_
    refine XS.iloadN X107.here hx rfl (hb hby dj40_45) rfl ?_
    refine XS.iloadN X107.here hx rfl (hb hby dj40_46) rfl ?_
    refine st109 _ ?_
    refine XS.ishr X109.here hx rfl (hb hby dj40_50) rfl ?_
    refine XS.i2b X109.here hx rfl (hb hby dj40_51) rfl ?_
    refine st110 _ ?_
    show SP pg ev below (T110.setTop (mkF mi 53 #[.val (.ref t), .val (.int (Int32.ofNat (2 * i + 1))), .val (.int c)] [])) _
    exact X110.returnOut hx Bd.returns (hb hby dj40_53) hr
  · show Q_pch Z t j c kt vs i m hE n0 _ T110.heap _
    rw [e110]
    exact ⟨rfl, N110, (((Keep.refl hE [t]).trans Kq107 (allS (Or.inl (List.mem_of_getElem? (i := 0) rfl)) all0)).trans Kq110 (allS (Or.inl (List.mem_of_getElem? (i := 0) rfl)) all0)), f110⟩
theorem dj0_0 : decode jc0 0 = .ok (.getstatic 38, 3) := by decide +kernel
theorem dj0_3 : decode jc0 3 = .ok (.ifCond .eq 10, 3) := by decide +kernel
theorem dj0_6 : decode jc0 6 = .ok (.aload_n 0, 1) := by decide +kernel
theorem dj0_7 : decode jc0 7 = .ok (.getfield 15, 3) := by decide +kernel
theorem dj0_10 : decode jc0 10 = .ok (.goto 4, 3) := by decide +kernel
theorem dj0_14 : decode jc0 14 = .ok (.ireturn, 1) := by decide +kernel
theorem pn_java_lang_String : plainName "java/lang/String" = true := by first | (simp [plainName, overriddenIn]; done) | decide +kernel
theorem ef_codw (mi : MethodId) (x : Addr) : entryFrame mi #[(.ref x)] 1 = mkF mi 0 #[.val (.ref x)] [] := rfl
def Q_codw (Z : State) (x : Addr) (ck zc : Int32) (hE : Heap) (n0 : Nat) (vv : Option Value) (hh : Heap) (LL : List Loc) : Prop := (vv = some (.int ck)) ∧ (Fr n0 LL) ∧ (hh = hE)
theorem rm_codw (hw : HW a0 Z) (ws : List Cond) (x : Addr) (ck zc : Int32) (hE : Heap) (n0 : Nat) (O : Old Z n0 hE) (P0_ : Fld Z hE x c0_ "coder" "B" (.int ck)) (D0_ : Sta Z Z.heap c0_ c8_ "Z" (.int zc)) (hcd : nar .byte ck = ck) (hzc : ¬ (zc = (0 : Int32))) :
    MF la Z hE mn2 jc0 1 (some .byte) ws (rr 0 0 0 0) #[(.ref x)] (Q_codw Z x ck zc hE n0) := by
  refine MetFree.of_bodySF (plainFor_of_name pn_java_lang_String) hisR ?_
  intro pg ev sb mi gs below me cd s₁ Bd hml0 hPt hKt
  obtain ⟨rfl, hZ, hh⟩ := hPt
  have hx := Bd.exec
  have hby := Bd.bytes
  have hml : cd.maxLocals = 1 := hml0
  have hown : sb.vm.findClass c0_ = some mi.cls := findClass_of_methodNamed Bd.named
  have X0 : Stand pg la ev (rr 0 0 0 0) sb mi #[(.ref x)] below me cd s₁ [] 0 0 := Stand.of_body Bd
  have eE : s₁.heap = hE := by rw [← hh, Bd.state]; rfl
  have N0 := Fr.nil n0
  have pre0 : ∀ tt, SP pg ev below (s₁.setTop (mkF mi 0 #[.val (.ref x)] [])) tt → SP pg ev below (s₁.setTop (entryFrame mi #[(.ref x)] 1)) tt := fun tt kk => castTop (ef_codw mi x) kk
  obtain ⟨T101, X101, e101, st101⟩ := getS2 X0 hx hZ hown (host := "") (Or.inl (wd49 hw)) Via.refl eE (D0_.ext O.2) (g := (mkF mi 0 #[.val (.ref x)] [])) rfl (hb hby dj0_0)
  obtain ⟨T102, X102, e102, st102⟩ := getF X101 hx hZ hown (host := "") (Or.inl (wd29 hw)) Via.refl e101 P0_ (g := (mkF mi 7 #[.val (.ref x)] [(.ref x)])) rfl rfl (hb hby dj0_7)
  obtain ⟨fs, hr, hrun, hended, hW, hsame⟩ := X102.leave (v := some (.int (nar .byte ck))) (fun hq => by rw [Bd.returns] at hq; cases hq)
  refine ⟨_, _, pre0 _ ?_, hrun, hended, _, _, rfl, ?_, ⟨_, rfl⟩, hW, hsame.mono (by decide) (by decide)⟩
  · show SP pg ev below (s₁.setTop (mkF mi 0 #[.val (.ref x)] [])) _
    refine st101 _ ?_
    refine XS.ifNo X101.here hx rfl (hb hby dj0_3) rfl ((if0 _ _).trans (feq hzc).1) ?_
    refine XS.aloadN X101.here hx rfl (hb hby dj0_6) rfl rfl ?_
    refine st102 _ ?_
    refine XS.goto X102.here hx rfl (pc0 := 10) (pc' := 14) rfl (hb hby dj0_10) (by decide) (by decide) ?_
    show SP pg ev below (T102.setTop (mkF mi 14 #[.val (.ref x)] [(.int ck)])) _
    exact retN X102 hx (t := .byte) Bd.returns (by simp) (hb hby dj0_14) hr
  · show Q_codw Z x ck zc hE n0 _ T102.heap _
    rw [e102]
    exact ⟨(congrArg (fun z => some (Value.int z)) hcd), N0, rfl⟩
theorem dj10_0 : decode jc10 0 = .ok (.aload_n 0, 1) := by decide +kernel
theorem dj10_1 : decode jc10 1 = .ok (.getfield 9, 3) := by decide +kernel
theorem dj10_4 : decode jc10 4 = .ok (.arraylength, 1) := by decide +kernel
theorem dj10_5 : decode jc10 5 = .ok (.aload_n 0, 1) := by decide +kernel
theorem dj10_6 : decode jc10 6 = .ok (.invokevirtual 335, 3) := by decide +kernel
theorem dj10_9 : decode jc10 9 = .ok (.ishr, 1) := by decide +kernel
theorem dj10_10 : decode jc10 10 = .ok (.ireturn, 1) := by decide +kernel
theorem pd_0 : parseMethodDescriptor "()B" = some ⟨[], some .byte⟩ := by decide +kernel
theorem ef_wlen (mi : MethodId) (x : Addr) : entryFrame mi #[(.ref x)] 1 = mkF mi 0 #[.val (.ref x)] [] := rfl
def Q_wlen (Z : State) (x t : Addr) (cs : List Int32) (zc : Int32) (hE : Heap) (n0 : Nat) (vv : Option Value) (hh : Heap) (LL : List Loc) : Prop := (vv = some (.int (Int32.ofNat cs.length))) ∧ (Fr n0 LL) ∧ (hh = hE)
theorem rm_wlen (hw : HW a0 Z) (ws : List Cond) (x t : Addr) (cs : List Int32) (zc : Int32) (hE : Heap) (n0 : Nat) (O : Old Z n0 hE) (P0_ : WStr Z hE x t cs) (D0_ : Sta Z Z.heap c0_ c8_ "Z" (.int zc)) (hzc : ¬ (zc = (0 : Int32))) :
    MF la Z hE mn3 jc10 1 (some .int) ws (rr 1 0 0 13) #[(.ref x)] (Q_wlen Z x t cs zc hE n0) := by
  refine MetFree.of_bodySF (plainFor_of_name pn_java_lang_String) hisR ?_
  intro pg ev sb mi gs below me cd s₁ Bd hml0 hPt hKt
  obtain ⟨rfl, hZ, hh⟩ := hPt
  have hx := Bd.exec
  have hby := Bd.bytes
  have hml : cd.maxLocals = 1 := hml0
  have hown : sb.vm.findClass c0_ = some mi.cls := findClass_of_methodNamed Bd.named
  have X0 : Stand pg la ev (rr 1 0 0 13) sb mi #[(.ref x)] below me cd s₁ [] 0 0 := Stand.of_body Bd
  have eE : s₁.heap = hE := by rw [← hh, Bd.state]; rfl
  have N0 := Fr.nil n0
  have pre0 : ∀ tt, SP pg ev below (s₁.setTop (mkF mi 0 #[.val (.ref x)] [])) tt → SP pg ev below (s₁.setTop (entryFrame mi #[(.ref x)] 1)) tt := fun tt kk => castTop (ef_wlen mi x) kk
  obtain ⟨wE101, wV101, ⟨cd101, N2101, vs101, kb101, wC101, wK101, wc101⟩, wb101, wl101⟩ := id P0_
  rcases wc101 with ⟨rfl, rfl, rfl, hq101⟩ | ⟨rfl, rfl, rfl, hq101⟩
  · obtain ⟨T102, X102, e102, st102⟩ := getF X0 hx hZ hown (host := "") (Or.inl (wd28 hw)) Via.refl eE wV101 (g := (mkF mi 1 #[.val (.ref x)] [(.ref x)])) rfl rfl (hb hby dj10_1)
    obtain ⟨cl103, Ar103, -, Sz103, Nn103, -, -⟩ := id wK101
    obtain ⟨cq104, kq104, q104a, q104b, q104c⟩ := isOf hZ e102 wE101
    obtain ⟨v104, _, ⟨T104, L104, k104, n104⟩, -, X104, ⟨Lc104, hQ104, l104, y104, z104⟩, st104⟩ := X102.virtualBack hx (y := mn2) (z := mn2) hown (mvT hZ (wd55 hw)) (mvT hZ (wd56 hw)) (notFace_of_selects (args := #[]) (mvT hZ (wd58 hw))) (mvT hZ (wd58 hw)) (mvT hZ (wd57 hw)) (by decide) (backOf (W := 1) (rm_codw la Z a0 hw [] x (0 : Int32) zc hE n0 O wC101 D0_ (by decide : nar .byte (0 : Int32) = (0 : Int32)) (hzc : ¬ (zc = (0 : Int32)))) hZ (wd59 hw) (wd11 hw) (by decide) (by decide)) q104a q104c (g := (mkF mi 6 #[.val (.ref x)] [(.ref x), (.int (Int32.ofNat cs.length))])) rfl (by rw [hml]; rfl) (Steps.refl _) (argsL := []) (rest := [(.int (Int32.ofNat cs.length))]) (lenOf pd_0 rfl) rfl (Nat.le_of_ble_eq_true rfl) (hb hby dj10_6) (fun _ _ => ⟨rfl, e102, (by decide : 0 + 0 ≤ _), (by decide : 0 + 0 ≤ _)⟩)
    dsimp only [Pt.U, Pt.locs, Pt.cells, Pt.slots] at X104 l104 y104 z104 st104 hQ104
    subst l104 y104 z104
    obtain ⟨rfl, Nq104, ek104⟩ := hQ104
    have N104 := Fr.app N0 Nq104
    obtain ⟨fs, hr, hrun, hended, hW, hsame⟩ := X104.leave (v := some (.int ((Int32.ofNat cs.length) >>> ((0 : Int32) &&& 31)))) (fun hq => by rw [Bd.returns] at hq; cases hq)
    refine ⟨_, _, pre0 _ ?_, hrun, hended, _, _, rfl, ?_, ⟨_, rfl⟩, hW, hsame.mono (by decide) (by decide)⟩
    · show SP pg ev below (s₁.setTop (mkF mi 0 #[.val (.ref x)] [])) _
      refine XS.aloadN X0.here hx rfl (hb hby dj10_0) rfl rfl ?_
      refine st102 _ ?_
      refine X102.arraylength hx (cell := cl103) (by rw [e102]; exact Ar103.1) (State.isArrayOf_alike hZ.alike Ar103.2.1) (g := (mkF mi 4 #[.val (.ref x)] [(.ref t)])) rfl (rest := []) rfl (hb hby dj10_4) _ ?_
      rw [len_of Sz103 Nn103]
      refine XS.aloadN X102.here hx rfl (hb hby dj10_5) rfl rfl ?_
      refine st104.trans ?_
      refine XS.ishr X104.here hx rfl (hb hby dj10_9) rfl ?_
      show SP pg ev below (T104.setTop (mkF mi 10 #[.val (.ref x)] [(.int ((Int32.ofNat cs.length) >>> ((0 : Int32) &&& 31)))])) _
      exact retI X104 hx Bd.returns (hb hby dj10_10) hr
    · show Q_wlen Z x t cs zc hE n0 _ T104.heap _
      rw [ek104]
      exact ⟨(congrArg (fun z => some (Value.int z)) (own_shr0 cs.length)), N104, rfl⟩
  · obtain ⟨T105, X105, e105, st105⟩ := getF X0 hx hZ hown (host := "") (Or.inl (wd28 hw)) Via.refl eE wV101 (g := (mkF mi 1 #[.val (.ref x)] [(.ref x)])) rfl rfl (hb hby dj10_1)
    obtain ⟨cl106, Ar106, -, Sz106, Nn106, -, -⟩ := id wK101
    obtain ⟨cq107, kq107, q107a, q107b, q107c⟩ := isOf hZ e105 wE101
    obtain ⟨v107, _, ⟨T107, L107, k107, n107⟩, -, X107, ⟨Lc107, hQ107, l107, y107, z107⟩, st107⟩ := X105.virtualBack hx (y := mn2) (z := mn2) hown (mvT hZ (wd55 hw)) (mvT hZ (wd56 hw)) (notFace_of_selects (args := #[]) (mvT hZ (wd58 hw))) (mvT hZ (wd58 hw)) (mvT hZ (wd57 hw)) (by decide) (backOf (W := 1) (rm_codw la Z a0 hw [] x (1 : Int32) zc hE n0 O wC101 D0_ (by decide : nar .byte (1 : Int32) = (1 : Int32)) (hzc : ¬ (zc = (0 : Int32)))) hZ (wd59 hw) (wd11 hw) (by decide) (by decide)) q107a q107c (g := (mkF mi 6 #[.val (.ref x)] [(.ref x), (.int (Int32.ofNat (2 * cs.length)))])) rfl (by rw [hml]; rfl) (Steps.refl _) (argsL := []) (rest := [(.int (Int32.ofNat (2 * cs.length)))]) (lenOf pd_0 rfl) rfl (Nat.le_of_ble_eq_true rfl) (hb hby dj10_6) (fun _ _ => ⟨rfl, e105, (by decide : 0 + 0 ≤ _), (by decide : 0 + 0 ≤ _)⟩)
    dsimp only [Pt.U, Pt.locs, Pt.cells, Pt.slots] at X107 l107 y107 z107 st107 hQ107
    subst l107 y107 z107
    obtain ⟨rfl, Nq107, ek107⟩ := hQ107
    have N107 := Fr.app N0 Nq107
    obtain ⟨fs, hr, hrun, hended, hW, hsame⟩ := X107.leave (v := some (.int ((Int32.ofNat (2 * cs.length)) >>> ((1 : Int32) &&& 31)))) (fun hq => by rw [Bd.returns] at hq; cases hq)
    refine ⟨_, _, pre0 _ ?_, hrun, hended, _, _, rfl, ?_, ⟨_, rfl⟩, hW, hsame.mono (by decide) (by decide)⟩
    · show SP pg ev below (s₁.setTop (mkF mi 0 #[.val (.ref x)] [])) _
      refine XS.aloadN X0.here hx rfl (hb hby dj10_0) rfl rfl ?_
      refine st105 _ ?_
      refine X105.arraylength hx (cell := cl106) (by rw [e105]; exact Ar106.1) (State.isArrayOf_alike hZ.alike Ar106.2.1) (g := (mkF mi 4 #[.val (.ref x)] [(.ref t)])) rfl (rest := []) rfl (hb hby dj10_4) _ ?_
      rw [len_of Sz106 Nn106]
      refine XS.aloadN X105.here hx rfl (hb hby dj10_5) rfl rfl ?_
      refine st107.trans ?_
      refine XS.ishr X107.here hx rfl (hb hby dj10_9) rfl ?_
      show SP pg ev below (T107.setTop (mkF mi 10 #[.val (.ref x)] [(.int ((Int32.ofNat (2 * cs.length)) >>> ((1 : Int32) &&& 31)))])) _
      exact retI X107 hx Bd.returns (hb hby dj10_10) hr
    · show Q_wlen Z x t cs zc hE n0 _ T107.heap _
      rw [ek107]
      exact ⟨(congrArg (fun z => some (Value.int z)) (own_shr1 wl101)), N107, rfl⟩
theorem dj1_0 : decode jc1 0 = .ok (.getstatic 38, 3) := by decide +kernel
theorem dj1_3 : decode jc1 3 = .ok (.ifCond .eq 14, 3) := by decide +kernel
theorem dj1_6 : decode jc1 6 = .ok (.aload_n 0, 1) := by decide +kernel
theorem dj1_7 : decode jc1 7 = .ok (.getfield 15, 3) := by decide +kernel
theorem dj1_10 : decode jc1 10 = .ok (.ifCond .ne 7, 3) := by decide +kernel
theorem dj1_13 : decode jc1 13 = .ok (.iconst 1, 1) := by decide +kernel
theorem dj1_14 : decode jc1 14 = .ok (.goto 4, 3) := by decide +kernel
theorem dj1_18 : decode jc1 18 = .ok (.ireturn, 1) := by decide +kernel
theorem ef_islA (mi : MethodId) (x : Addr) : entryFrame mi #[(.ref x)] 1 = mkF mi 0 #[.val (.ref x)] [] := rfl
def Q_islA (Z : State) (x : Addr) (zc : Int32) (hE : Heap) (n0 : Nat) (vv : Option Value) (hh : Heap) (LL : List Loc) : Prop := (vv = some (.int 1)) ∧ (Fr n0 LL) ∧ (hh = hE)
theorem rm_islA (hw : HW a0 Z) (ws : List Cond) (x : Addr) (zc : Int32) (hE : Heap) (n0 : Nat) (O : Old Z n0 hE) (P0_ : Fld Z hE x c0_ "coder" "B" (.int 0)) (D0_ : Sta Z Z.heap c0_ c8_ "Z" (.int zc)) (hzc : ¬ (zc = (0 : Int32))) :
    MF la Z hE mn4 jc1 1 (some .boolean) ws (rr 0 0 0 0) #[(.ref x)] (Q_islA Z x zc hE n0) := by
  refine MetFree.of_bodySF (plainFor_of_name pn_java_lang_String) hisR ?_
  intro pg ev sb mi gs below me cd s₁ Bd hml0 hPt hKt
  obtain ⟨rfl, hZ, hh⟩ := hPt
  have hx := Bd.exec
  have hby := Bd.bytes
  have hml : cd.maxLocals = 1 := hml0
  have hown : sb.vm.findClass c0_ = some mi.cls := findClass_of_methodNamed Bd.named
  have X0 : Stand pg la ev (rr 0 0 0 0) sb mi #[(.ref x)] below me cd s₁ [] 0 0 := Stand.of_body Bd
  have eE : s₁.heap = hE := by rw [← hh, Bd.state]; rfl
  have N0 := Fr.nil n0
  have pre0 : ∀ tt, SP pg ev below (s₁.setTop (mkF mi 0 #[.val (.ref x)] [])) tt → SP pg ev below (s₁.setTop (entryFrame mi #[(.ref x)] 1)) tt := fun tt kk => castTop (ef_islA mi x) kk
  obtain ⟨T101, X101, e101, st101⟩ := getS2 X0 hx hZ hown (host := "") (Or.inl (wd49 hw)) Via.refl eE (D0_.ext O.2) (g := (mkF mi 0 #[.val (.ref x)] [])) rfl (hb hby dj1_0)
  obtain ⟨T102, X102, e102, st102⟩ := getF X101 hx hZ hown (host := "") (Or.inl (wd29 hw)) Via.refl e101 P0_ (g := (mkF mi 7 #[.val (.ref x)] [(.ref x)])) rfl rfl (hb hby dj1_7)
  obtain ⟨fs, hr, hrun, hended, hW, hsame⟩ := X102.leave (v := some (.int 1)) (fun hq => by rw [Bd.returns] at hq; cases hq)
  refine ⟨_, _, pre0 _ ?_, hrun, hended, _, _, rfl, ?_, ⟨_, rfl⟩, hW, hsame.mono (by decide) (by decide)⟩
  · show SP pg ev below (s₁.setTop (mkF mi 0 #[.val (.ref x)] [])) _
    refine st101 _ ?_
    refine XS.ifNo X101.here hx rfl (hb hby dj1_3) rfl ((if0 _ _).trans (feq hzc).1) ?_
    refine XS.aloadN X101.here hx rfl (hb hby dj1_6) rfl rfl ?_
    refine st102 _ ?_
    refine XS.ifNo X102.here hx rfl (hb hby dj1_10) rfl ((if0 _ _).trans (teq (rfl : (0 : Int32) = (0 : Int32))).2) ?_
    refine XS.iconst X102.here hx rfl (hb hby dj1_13) ?_
    refine XS.goto X102.here hx rfl (pc0 := 14) (pc' := 18) rfl (hb hby dj1_14) (by decide) (by decide) ?_
    show SP pg ev below (T102.setTop (mkF mi 18 #[.val (.ref x)] [(.int 1)])) _
    exact retN X102 hx (t := .boolean) Bd.returns (by simp) (hb hby dj1_18) hr
  · show Q_islA Z x zc hE n0 _ T102.heap _
    rw [e102]
    exact ⟨rfl, N0, rfl⟩
theorem dj1_17 : decode jc1 17 = .ok (.iconst 0, 1) := by decide +kernel
theorem ef_islB (mi : MethodId) (x : Addr) : entryFrame mi #[(.ref x)] 1 = mkF mi 0 #[.val (.ref x)] [] := rfl
def Q_islB (Z : State) (x : Addr) (zc : Int32) (hE : Heap) (n0 : Nat) (vv : Option Value) (hh : Heap) (LL : List Loc) : Prop := (vv = some (.int 0)) ∧ (Fr n0 LL) ∧ (hh = hE)
theorem rm_islB (hw : HW a0 Z) (ws : List Cond) (x : Addr) (zc : Int32) (hE : Heap) (n0 : Nat) (O : Old Z n0 hE) (P0_ : Fld Z hE x c0_ "coder" "B" (.int 1)) (D0_ : Sta Z Z.heap c0_ c8_ "Z" (.int zc)) (hzc : ¬ (zc = (0 : Int32))) :
    MF la Z hE mn4 jc1 1 (some .boolean) ws (rr 0 0 0 0) #[(.ref x)] (Q_islB Z x zc hE n0) := by
  refine MetFree.of_bodySF (plainFor_of_name pn_java_lang_String) hisR ?_
  intro pg ev sb mi gs below me cd s₁ Bd hml0 hPt hKt
  obtain ⟨rfl, hZ, hh⟩ := hPt
  have hx := Bd.exec
  have hby := Bd.bytes
  have hml : cd.maxLocals = 1 := hml0
  have hown : sb.vm.findClass c0_ = some mi.cls := findClass_of_methodNamed Bd.named
  have X0 : Stand pg la ev (rr 0 0 0 0) sb mi #[(.ref x)] below me cd s₁ [] 0 0 := Stand.of_body Bd
  have eE : s₁.heap = hE := by rw [← hh, Bd.state]; rfl
  have N0 := Fr.nil n0
  have pre0 : ∀ tt, SP pg ev below (s₁.setTop (mkF mi 0 #[.val (.ref x)] [])) tt → SP pg ev below (s₁.setTop (entryFrame mi #[(.ref x)] 1)) tt := fun tt kk => castTop (ef_islB mi x) kk
  obtain ⟨T101, X101, e101, st101⟩ := getS2 X0 hx hZ hown (host := "") (Or.inl (wd49 hw)) Via.refl eE (D0_.ext O.2) (g := (mkF mi 0 #[.val (.ref x)] [])) rfl (hb hby dj1_0)
  obtain ⟨T102, X102, e102, st102⟩ := getF X101 hx hZ hown (host := "") (Or.inl (wd29 hw)) Via.refl e101 P0_ (g := (mkF mi 7 #[.val (.ref x)] [(.ref x)])) rfl rfl (hb hby dj1_7)
  obtain ⟨fs, hr, hrun, hended, hW, hsame⟩ := X102.leave (v := some (.int 0)) (fun hq => by rw [Bd.returns] at hq; cases hq)
  refine ⟨_, _, pre0 _ ?_, hrun, hended, _, _, rfl, ?_, ⟨_, rfl⟩, hW, hsame.mono (by decide) (by decide)⟩
  · show SP pg ev below (s₁.setTop (mkF mi 0 #[.val (.ref x)] [])) _
    refine st101 _ ?_
    refine XS.ifNo X101.here hx rfl (hb hby dj1_3) rfl ((if0 _ _).trans (feq hzc).1) ?_
    refine XS.aloadN X101.here hx rfl (hb hby dj1_6) rfl rfl ?_
    refine st102 _ ?_
    refine XS.ifYes X102.here hx rfl (pc0 := 10) (pc' := 17) rfl (hb hby dj1_10) rfl ((if0 _ _).trans (feq (by decide : ¬ ((1 : Int32) = (0 : Int32)))).2) (by decide) (by decide) ?_
    refine XS.iconst X102.here hx rfl (hb hby dj1_17) ?_
    show SP pg ev below (T102.setTop (mkF mi 18 #[.val (.ref x)] [(.int 0)])) _
    exact retN X102 hx (t := .boolean) Bd.returns (by simp) (hb hby dj1_18) hr
  · show Q_islB Z x zc hE n0 _ T102.heap _
    rw [e102]
    exact ⟨rfl, N0, rfl⟩
theorem dj11_0 : decode jc11 0 = .ok (.iload_n 0, 1) := by decide +kernel
theorem dj11_1 : decode jc11 1 = .ok (.iload_n 1, 1) := by decide +kernel
theorem dj11_2 : decode jc11 2 = .ok (.if_icmp .lt 7, 3) := by decide +kernel
theorem dj11_5 : decode jc11 5 = .ok (.iload_n 0, 1) := by decide +kernel
theorem dj11_6 : decode jc11 6 = .ok (.goto 4, 3) := by decide +kernel
theorem dj11_9 : decode jc11 9 = .ok (.iload_n 1, 1) := by decide +kernel
theorem dj11_10 : decode jc11 10 = .ok (.ireturn, 1) := by decide +kernel
theorem ef_mmax (mi : MethodId) (p : Int32) (q : Int32) : entryFrame mi #[(.int p), (.int q)] 2 = mkF mi 0 #[.val (.int p), .val (.int q)] [] := rfl
def Q_mmax (Z : State) (p q : Int32) (hE : Heap) (n0 : Nat) (vv : Option Value) (hh : Heap) (LL : List Loc) : Prop := (vv = some (.int (if p < q then q else p))) ∧ (Fr n0 LL) ∧ (hh = hE)
theorem rm_mmax (hw : HW a0 Z) (ws : List Cond) (p q : Int32) (hE : Heap) (n0 : Nat) (O : Old Z n0 hE) :
    MF la Z hE mn5 jc11 2 (some .int) ws (rr 0 0 0 0) #[(.int p), (.int q)] (Q_mmax Z p q hE n0) := by
  refine MetFree.of_bodySF (Jvm.Free.JP.mathPlain rfl (by decide +kernel)) hisR ?_
  intro pg ev sb mi gs below me cd s₁ Bd hml0 hPt hKt
  obtain ⟨rfl, hZ, hh⟩ := hPt
  have hx := Bd.exec
  have hby := Bd.bytes
  have hml : cd.maxLocals = 2 := hml0
  have hown : sb.vm.findClass c14_ = some mi.cls := findClass_of_methodNamed Bd.named
  have X0 : Stand pg la ev (rr 0 0 0 0) sb mi #[(.int p), (.int q)] below me cd s₁ [] 0 0 := Stand.of_body Bd
  have eE : s₁.heap = hE := by rw [← hh, Bd.state]; rfl
  have N0 := Fr.nil n0
  have pre0 : ∀ tt, SP pg ev below (s₁.setTop (mkF mi 0 #[.val (.int p), .val (.int q)] [])) tt → SP pg ev below (s₁.setTop (entryFrame mi #[(.int p), (.int q)] 2)) tt := fun tt kk => castTop (ef_mmax mi p q) kk
  have pre102 : ∀ tt, SP pg ev below (s₁.setTop (mkF mi 2 #[.val (.int p), .val (.int q)] [(.int q), (.int p)])) tt → SP pg ev below (s₁.setTop (entryFrame mi #[(.int p), (.int q)] 2)) tt := fun tt kk => pre0 _ (by
    show SP pg ev below (s₁.setTop (mkF mi 0 #[.val (.int p), .val (.int q)] [])) _
    refine XS.iloadN X0.here hx rfl (hb hby dj11_0) rfl ?_
    refine XS.iloadN X0.here hx rfl (hb hby dj11_1) rfl ?_
    exact kk)
  by_cases hc101 : p < q
  · obtain ⟨fs, hr, hrun, hended, hW, hsame⟩ := X0.leave (v := some (.int q)) (fun hq => by rw [Bd.returns] at hq; cases hq)
    refine ⟨_, _, pre102 _ ?_, hrun, hended, _, _, rfl, ?_, ⟨_, rfl⟩, hW, hsame.mono (by decide) (by decide)⟩
    · show SP pg ev below (s₁.setTop (mkF mi 2 #[.val (.int p), .val (.int q)] [(.int q), (.int p)])) _
      refine XS.icmpYes X0.here hx rfl (pc0 := 2) (pc' := 9) rfl (hb hby dj11_2) rfl (tlt hc101).1 (by decide) (by decide) ?_
      refine XS.iloadN X0.here hx rfl (hb hby dj11_9) rfl ?_
      show SP pg ev below (s₁.setTop (mkF mi 10 #[.val (.int p), .val (.int q)] [(.int q)])) _
      exact retI X0 hx Bd.returns (hb hby dj11_10) hr
    · show Q_mmax Z p q hE n0 _ s₁.heap _
      rw [eE]
      exact ⟨(by show some (Value.int q) = some (Value.int (if p < q then q else p)); rw [if_pos hc101]), N0, rfl⟩
  · obtain ⟨fs, hr, hrun, hended, hW, hsame⟩ := X0.leave (v := some (.int p)) (fun hq => by rw [Bd.returns] at hq; cases hq)
    refine ⟨_, _, pre102 _ ?_, hrun, hended, _, _, rfl, ?_, ⟨_, rfl⟩, hW, hsame.mono (by decide) (by decide)⟩
    · show SP pg ev below (s₁.setTop (mkF mi 2 #[.val (.int p), .val (.int q)] [(.int q), (.int p)])) _
      refine XS.icmpNo X0.here hx rfl (hb hby dj11_2) rfl (flt hc101).1 ?_
      refine XS.iloadN X0.here hx rfl (hb hby dj11_5) rfl ?_
      refine XS.goto X0.here hx rfl (pc0 := 6) (pc' := 10) rfl (hb hby dj11_6) (by decide) (by decide) ?_
      show SP pg ev below (s₁.setTop (mkF mi 10 #[.val (.int p), .val (.int q)] [(.int p)])) _
      exact retI X0 hx Bd.returns (hb hby dj11_10) hr
    · show Q_mmax Z p q hE n0 _ s₁.heap _
      rw [eE]
      exact ⟨(by show some (Value.int p) = some (Value.int (if p < q then q else p)); rw [if_neg hc101]), N0, rfl⟩
theorem dj12_0 : decode jc12 0 = .ok (.iload_n 0, 1) := by decide +kernel
theorem dj12_1 : decode jc12 1 = .ok (.iload_n 1, 1) := by decide +kernel
theorem dj12_2 : decode jc12 2 = .ok (.if_icmp .gt 7, 3) := by decide +kernel
theorem dj12_5 : decode jc12 5 = .ok (.iload_n 0, 1) := by decide +kernel
theorem dj12_6 : decode jc12 6 = .ok (.goto 4, 3) := by decide +kernel
theorem dj12_9 : decode jc12 9 = .ok (.iload_n 1, 1) := by decide +kernel
theorem dj12_10 : decode jc12 10 = .ok (.ireturn, 1) := by decide +kernel
theorem ef_mmin (mi : MethodId) (p : Int32) (q : Int32) : entryFrame mi #[(.int p), (.int q)] 2 = mkF mi 0 #[.val (.int p), .val (.int q)] [] := rfl
def Q_mmin (Z : State) (p q : Int32) (hE : Heap) (n0 : Nat) (vv : Option Value) (hh : Heap) (LL : List Loc) : Prop := (vv = some (.int (if q < p then q else p))) ∧ (Fr n0 LL) ∧ (hh = hE)
theorem rm_mmin (hw : HW a0 Z) (ws : List Cond) (p q : Int32) (hE : Heap) (n0 : Nat) (O : Old Z n0 hE) :
    MF la Z hE mn6 jc12 2 (some .int) ws (rr 0 0 0 0) #[(.int p), (.int q)] (Q_mmin Z p q hE n0) := by
  refine MetFree.of_bodySF (Jvm.Free.JP.mathPlain rfl (by decide +kernel)) hisR ?_
  intro pg ev sb mi gs below me cd s₁ Bd hml0 hPt hKt
  obtain ⟨rfl, hZ, hh⟩ := hPt
  have hx := Bd.exec
  have hby := Bd.bytes
  have hml : cd.maxLocals = 2 := hml0
  have hown : sb.vm.findClass c14_ = some mi.cls := findClass_of_methodNamed Bd.named
  have X0 : Stand pg la ev (rr 0 0 0 0) sb mi #[(.int p), (.int q)] below me cd s₁ [] 0 0 := Stand.of_body Bd
  have eE : s₁.heap = hE := by rw [← hh, Bd.state]; rfl
  have N0 := Fr.nil n0
  have pre0 : ∀ tt, SP pg ev below (s₁.setTop (mkF mi 0 #[.val (.int p), .val (.int q)] [])) tt → SP pg ev below (s₁.setTop (entryFrame mi #[(.int p), (.int q)] 2)) tt := fun tt kk => castTop (ef_mmin mi p q) kk
  have pre102 : ∀ tt, SP pg ev below (s₁.setTop (mkF mi 2 #[.val (.int p), .val (.int q)] [(.int q), (.int p)])) tt → SP pg ev below (s₁.setTop (entryFrame mi #[(.int p), (.int q)] 2)) tt := fun tt kk => pre0 _ (by
    show SP pg ev below (s₁.setTop (mkF mi 0 #[.val (.int p), .val (.int q)] [])) _
    refine XS.iloadN X0.here hx rfl (hb hby dj12_0) rfl ?_
    refine XS.iloadN X0.here hx rfl (hb hby dj12_1) rfl ?_
    exact kk)
  by_cases hc101 : q < p
  · obtain ⟨fs, hr, hrun, hended, hW, hsame⟩ := X0.leave (v := some (.int q)) (fun hq => by rw [Bd.returns] at hq; cases hq)
    refine ⟨_, _, pre102 _ ?_, hrun, hended, _, _, rfl, ?_, ⟨_, rfl⟩, hW, hsame.mono (by decide) (by decide)⟩
    · show SP pg ev below (s₁.setTop (mkF mi 2 #[.val (.int p), .val (.int q)] [(.int q), (.int p)])) _
      refine XS.icmpYes X0.here hx rfl (pc0 := 2) (pc' := 9) rfl (hb hby dj12_2) rfl (tlt hc101).2.2.1 (by decide) (by decide) ?_
      refine XS.iloadN X0.here hx rfl (hb hby dj12_9) rfl ?_
      show SP pg ev below (s₁.setTop (mkF mi 10 #[.val (.int p), .val (.int q)] [(.int q)])) _
      exact retI X0 hx Bd.returns (hb hby dj12_10) hr
    · show Q_mmin Z p q hE n0 _ s₁.heap _
      rw [eE]
      exact ⟨(by show some (Value.int q) = some (Value.int (if q < p then q else p)); rw [if_pos hc101]), N0, rfl⟩
  · obtain ⟨fs, hr, hrun, hended, hW, hsame⟩ := X0.leave (v := some (.int p)) (fun hq => by rw [Bd.returns] at hq; cases hq)
    refine ⟨_, _, pre102 _ ?_, hrun, hended, _, _, rfl, ?_, ⟨_, rfl⟩, hW, hsame.mono (by decide) (by decide)⟩
    · show SP pg ev below (s₁.setTop (mkF mi 2 #[.val (.int p), .val (.int q)] [(.int q), (.int p)])) _
      refine XS.icmpNo X0.here hx rfl (hb hby dj12_2) rfl (flt hc101).2.2.1 ?_
      refine XS.iloadN X0.here hx rfl (hb hby dj12_5) rfl ?_
      refine XS.goto X0.here hx rfl (pc0 := 6) (pc' := 10) rfl (hb hby dj12_6) (by decide) (by decide) ?_
      show SP pg ev below (s₁.setTop (mkF mi 10 #[.val (.int p), .val (.int q)] [(.int p)])) _
      exact retI X0 hx Bd.returns (hb hby dj12_10) hr
    · show Q_mmin Z p q hE n0 _ s₁.heap _
      rw [eE]
      exact ⟨(by show some (Value.int p) = some (Value.int (if q < p then q else p)); rw [if_neg hc101]), N0, rfl⟩
theorem dj13_0 : decode jc13 0 = .ok (.iload_n 0, 1) := by decide +kernel
theorem dj13_1 : decode jc13 1 = .ok (.ifCond .lt 13, 3) := by decide +kernel
theorem dj13_4 : decode jc13 4 = .ok (.iload_n 0, 1) := by decide +kernel
theorem dj13_5 : decode jc13 5 = .ok (.iload_n 1, 1) := by decide +kernel
theorem dj13_6 : decode jc13 6 = .ok (.if_icmp .gt 8, 3) := by decide +kernel
theorem dj13_9 : decode jc13 9 = .ok (.iload_n 1, 1) := by decide +kernel
theorem dj13_10 : decode jc13 10 = .ok (.iload_n 2, 1) := by decide +kernel
theorem dj13_11 : decode jc13 11 = .ok (.if_icmp .le 11, 3) := by decide +kernel
theorem dj13_22 : decode jc13 22 = .ok (.iload_n 0, 1) := by decide +kernel
theorem dj13_23 : decode jc13 23 = .ok (.ireturn, 1) := by decide +kernel
theorem pn_jdk_internal_util_Preconditions : plainName "jdk/internal/util/Preconditions" = true := by first | (simp [plainName, overriddenIn]; done) | decide +kernel
theorem ef_cft (mi : MethodId) (b : Int32) (e : Int32) (n : Int32) (fm : Value) (hx_fm : fm.isRef = true) : entryFrame mi #[(.int b), (.int e), (.int n), fm] 4 = mkF mi 0 #[.val (.int b), .val (.int e), .val (.int n), .val fm] [] := by rcases ref_cases hx_fm with rfl | ⟨_, rfl⟩ <;> (first | (simp [entryFrame, mkF, argsToLocals, Value.category]; done) | rfl)
def Q_cft (Z : State) (b e n : Int32) (fm : Value) (hE : Heap) (n0 : Nat) (vv : Option Value) (hh : Heap) (LL : List Loc) : Prop := (vv = some (.int b)) ∧ (Fr n0 LL) ∧ (hh = hE)
theorem rm_cft (hw : HW a0 Z) (ws : List Cond) (b e n : Int32) (fm : Value) (hE : Heap) (n0 : Nat) (O : Old Z n0 hE) (h1 : ¬ (b < (0 : Int32))) (h2 : ¬ (e < b)) (h3 : ¬ (n < e)) (hfm : fm.isRef = true) :
    MF la Z hE mn7 jc13 4 (some .int) ws (rr 0 0 0 0) #[(.int b), (.int e), (.int n), fm] (Q_cft Z b e n fm hE n0) := by
  refine MetFree.of_bodySF (plainFor_of_name pn_jdk_internal_util_Preconditions) hisR ?_
  intro pg ev sb mi gs below me cd s₁ Bd hml0 hPt hKt
  obtain ⟨rfl, hZ, hh⟩ := hPt
  have hx := Bd.exec
  have hby := Bd.bytes
  have hml : cd.maxLocals = 4 := hml0
  have hown : sb.vm.findClass c3_ = some mi.cls := findClass_of_methodNamed Bd.named
  have X0 : Stand pg la ev (rr 0 0 0 0) sb mi #[(.int b), (.int e), (.int n), fm] below me cd s₁ [] 0 0 := Stand.of_body Bd
  have eE : s₁.heap = hE := by rw [← hh, Bd.state]; rfl
  have N0 := Fr.nil n0
  have pre0 : ∀ tt, SP pg ev below (s₁.setTop (mkF mi 0 #[.val (.int b), .val (.int e), .val (.int n), .val fm] [])) tt → SP pg ev below (s₁.setTop (entryFrame mi #[(.int b), (.int e), (.int n), fm] 4)) tt := fun tt kk => castTop (ef_cft mi b e n fm hfm) kk
  obtain ⟨fs, hr, hrun, hended, hW, hsame⟩ := X0.leave (v := some (.int b)) (fun hq => by rw [Bd.returns] at hq; cases hq)
  refine ⟨_, _, pre0 _ ?_, hrun, hended, _, _, rfl, ?_, ⟨_, rfl⟩, hW, hsame.mono (by decide) (by decide)⟩
  · show SP pg ev below (s₁.setTop (mkF mi 0 #[.val (.int b), .val (.int e), .val (.int n), .val fm] [])) _
    refine XS.iloadN X0.here hx rfl (hb hby dj13_0) rfl ?_
    refine XS.ifNo X0.here hx rfl (hb hby dj13_1) rfl ((if0 _ _).trans (flt h1).1) ?_
    refine XS.iloadN X0.here hx rfl (hb hby dj13_4) rfl ?_
    refine XS.iloadN X0.here hx rfl (hb hby dj13_5) rfl ?_
    refine XS.icmpNo X0.here hx rfl (hb hby dj13_6) rfl (flt h2).2.2.1 ?_
    refine XS.iloadN X0.here hx rfl (hb hby dj13_9) rfl ?_
    refine XS.iloadN X0.here hx rfl (hb hby dj13_10) rfl ?_
    refine XS.icmpYes X0.here hx rfl (pc0 := 11) (pc' := 22) rfl (hb hby dj13_11) rfl (flt h3).2.2.2 (by decide) (by decide) ?_
    refine XS.iloadN X0.here hx rfl (hb hby dj13_22) rfl ?_
    show SP pg ev below (s₁.setTop (mkF mi 23 #[.val (.int b), .val (.int e), .val (.int n), .val fm] [(.int b)])) _
    exact retI X0 hx Bd.returns (hb hby dj13_23) hr
  · show Q_cft Z b e n fm hE n0 _ s₁.heap _
    rw [eE]
    exact ⟨rfl, N0, rfl⟩
theorem dj2_0 : decode jc2 0 = .ok (.iload_n 0, 1) := by decide +kernel
theorem dj2_1 : decode jc2 1 = .ok (.iload_n 1, 1) := by decide +kernel
theorem dj2_2 : decode jc2 2 = .ok (.iload_n 2, 1) := by decide +kernel
theorem dj2_3 : decode jc2 3 = .ok (.getstatic 1053, 3) := by decide +kernel
theorem dj2_6 : decode jc2 6 = .ok (.invokestatic 1062, 3) := by decide +kernel
theorem dj2_9 : decode jc2 9 = .ok (.pop, 1) := by decide +kernel
theorem dj2_10 : decode jc2 10 = .ok (.return_, 1) := by decide +kernel
theorem pd_1 : parseMethodDescriptor "(IIILjava/util/function/BiFunction;)I" = some ⟨[.int, .int, .int, (.object "java/util/function/BiFunction")], some .int⟩ := by decide +kernel
theorem ef_cbe (mi : MethodId) (b : Int32) (e : Int32) (n : Int32) : entryFrame mi #[(.int b), (.int e), (.int n)] 3 = mkF mi 0 #[.val (.int b), .val (.int e), .val (.int n)] [] := rfl
def Q_cbe (Z : State) (b e n : Int32) (fm : Value) (hE : Heap) (n0 : Nat) (vv : Option Value) (hh : Heap) (LL : List Loc) : Prop := (vv = none) ∧ (Fr n0 LL) ∧ (hh = hE)
theorem rm_cbe (hw : HW a0 Z) (ws : List Cond) (b e n : Int32) (fm : Value) (hE : Heap) (n0 : Nat) (O : Old Z n0 hE) (D0_ : Sta Z Z.heap c3_ c7_ c4_ fm) (h1 : ¬ (b < (0 : Int32))) (h2 : ¬ (e < b)) (h3 : ¬ (n < e)) (hfm : fm.isRef = true) :
    MF la Z hE mn8 jc2 3 none ws (rr 1 0 0 15) #[(.int b), (.int e), (.int n)] (Q_cbe Z b e n fm hE n0) := by
  refine MetFree.of_bodySF (plainFor_of_name pn_java_lang_String) hisR ?_
  intro pg ev sb mi gs below me cd s₁ Bd hml0 hPt hKt
  obtain ⟨rfl, hZ, hh⟩ := hPt
  have hx := Bd.exec
  have hby := Bd.bytes
  have hml : cd.maxLocals = 3 := hml0
  have hown : sb.vm.findClass c0_ = some mi.cls := findClass_of_methodNamed Bd.named
  have X0 : Stand pg la ev (rr 1 0 0 15) sb mi #[(.int b), (.int e), (.int n)] below me cd s₁ [] 0 0 := Stand.of_body Bd
  have eE : s₁.heap = hE := by rw [← hh, Bd.state]; rfl
  have N0 := Fr.nil n0
  have pre0 : ∀ tt, SP pg ev below (s₁.setTop (mkF mi 0 #[.val (.int b), .val (.int e), .val (.int n)] [])) tt → SP pg ev below (s₁.setTop (entryFrame mi #[(.int b), (.int e), (.int n)] 3)) tt := fun tt kk => castTop (ef_cbe mi b e n) kk
  obtain ⟨T101, X101, e101, st101⟩ := getS2 X0 hx hZ hown (host := "") (Or.inl (wd107 hw)) Via.refl eE (D0_.ext O.2) (g := (mkF mi 3 #[.val (.int b), .val (.int e), .val (.int n)] [(.int n), (.int e), (.int b)])) rfl (hb hby dj2_3)
  obtain ⟨v102, _, ⟨T102, L102, k102, n102⟩, -, X102, ⟨Lc102, hQ102, l102, y102, z102⟩, st102⟩ := Jvm.LawKit.callS X101 hx (y := mn7) hown (mvT hZ (wd109 hw)) (mvT hZ (wd110 hw)) (mvT hZ (wd108 hw)) (mvT hZ (wd111 hw)) (by decide) (backOf (W := 0) (rm_cft la Z a0 hw [] b e n fm hE n0 O (h1 : ¬ (b < (0 : Int32))) (h2 : ¬ (e < b)) (h3 : ¬ (n < e)) (hfm : fm.isRef = true)) hZ (wd111 hw) (wd108 hw) (by decide) (by decide)) (g := (mkF mi 6 #[.val (.int b), .val (.int e), .val (.int n)] [fm, (.int n), (.int e), (.int b)])) rfl (by rw [hml]; rfl) (argsL := [(.int b), (.int e), (.int n), fm]) (rest := []) (lenOf pd_1 rfl) rfl (Nat.le_of_ble_eq_true rfl) (hb hby dj2_6) (fun _ _ => ⟨rfl, e101, (by decide : 0 + 0 ≤ _), (by decide : 0 + 0 ≤ _)⟩)
  dsimp only [Pt.U, Pt.locs, Pt.cells, Pt.slots] at X102 l102 y102 z102 st102 hQ102
  subst l102 y102 z102
  obtain ⟨rfl, Nq102, ek102⟩ := hQ102
  have N102 := Fr.app N0 Nq102
  obtain ⟨fs, hr, hrun, hended, hW, hsame⟩ := X102.leave (v := none) (fun _ => rfl)
  refine ⟨_, _, pre0 _ ?_, hrun, hended, _, _, rfl, ?_, ⟨_, rfl⟩, hW, hsame.mono (by decide) (by decide)⟩
  · show SP pg ev below (s₁.setTop (mkF mi 0 #[.val (.int b), .val (.int e), .val (.int n)] [])) _
    refine XS.iloadN X0.here hx rfl (hb hby dj2_0) rfl ?_
    refine XS.iloadN X0.here hx rfl (hb hby dj2_1) rfl ?_
    refine XS.iloadN X0.here hx rfl (hb hby dj2_2) rfl ?_
    refine st101 _ ?_
    refine st102 _ ?_
    refine XS.pop X102.here hx rfl (hb hby dj2_9) rfl rfl ?_
    show SP pg ev below (T102.setTop (mkF mi 10 #[.val (.int b), .val (.int e), .val (.int n)] [])) _
    exact X102.returnOut hx Bd.returns (hb hby dj2_10) hr
  · show Q_cbe Z b e n fm hE n0 _ T102.heap _
    rw [ek102]
    exact ⟨rfl, N102, rfl⟩
theorem dj41_0 : decode jc41 0 = .ok (.aload_n 0, 1) := by decide +kernel
theorem dj41_1 : decode jc41 1 = .ok (.arraylength, 1) := by decide +kernel
theorem dj41_2 : decode jc41 2 = .ok (.iconst 1, 1) := by decide +kernel
theorem dj41_3 : decode jc41 3 = .ok (.ishr, 1) := by decide +kernel
theorem dj41_4 : decode jc41 4 = .ok (.ireturn, 1) := by decide +kernel
theorem ef_ulen (mi : MethodId) (t : Addr) : entryFrame mi #[(.ref t)] 1 = mkF mi 0 #[.val (.ref t)] [] := rfl
def Q_ulen (Z : State) (t : Addr) (kt : ClassId) (cs : List Int32) (hE : Heap) (n0 : Nat) (vv : Option Value) (hh : Heap) (LL : List Loc) : Prop := (vv = some (.int (Int32.ofNat cs.length))) ∧ (Fr n0 LL) ∧ (hh = hE)
theorem rm_ulen (hw : HW a0 Z) (ws : List Cond) (t : Addr) (kt : ClassId) (cs : List Int32) (hE : Heap) (n0 : Nat) (O : Old Z n0 hE) (P0_ : Arv Z hE t kt .byte (Int32.ofNat (2 * cs.length)) (StrChars.Road.wideBytes cs) (.int 0)) (hl : cs.length ≤ 4000) :
    MF la Z hE mn9 jc41 1 (some .int) ws (rr 0 0 0 0) #[(.ref t)] (Q_ulen Z t kt cs hE n0) := by
  refine MetFree.of_bodySF (plainFor_of_name pn_java_lang_StringUTF16) hisR ?_
  intro pg ev sb mi gs below me cd s₁ Bd hml0 hPt hKt
  obtain ⟨rfl, hZ, hh⟩ := hPt
  have hx := Bd.exec
  have hby := Bd.bytes
  have hml : cd.maxLocals = 1 := hml0
  have hown : sb.vm.findClass c1_ = some mi.cls := findClass_of_methodNamed Bd.named
  have X0 : Stand pg la ev (rr 0 0 0 0) sb mi #[(.ref t)] below me cd s₁ [] 0 0 := Stand.of_body Bd
  have eE : s₁.heap = hE := by rw [← hh, Bd.state]; rfl
  have N0 := Fr.nil n0
  have pre0 : ∀ tt, SP pg ev below (s₁.setTop (mkF mi 0 #[.val (.ref t)] [])) tt → SP pg ev below (s₁.setTop (entryFrame mi #[(.ref t)] 1)) tt := fun tt kk => castTop (ef_ulen mi t) kk
  obtain ⟨cl101, Ar101, -, Sz101, Nn101, -, -⟩ := id P0_
  obtain ⟨fs, hr, hrun, hended, hW, hsame⟩ := X0.leave (v := some (.int ((Int32.ofNat (2 * cs.length)) >>> ((1 : Int32) &&& 31)))) (fun hq => by rw [Bd.returns] at hq; cases hq)
  refine ⟨_, _, pre0 _ ?_, hrun, hended, _, _, rfl, ?_, ⟨_, rfl⟩, hW, hsame.mono (by decide) (by decide)⟩
  · show SP pg ev below (s₁.setTop (mkF mi 0 #[.val (.ref t)] [])) _
    refine XS.aloadN X0.here hx rfl (hb hby dj41_0) rfl rfl ?_
    refine X0.arraylength hx (cell := cl101) (by rw [eE]; exact Ar101.1) (State.isArrayOf_alike hZ.alike Ar101.2.1) (g := (mkF mi 1 #[.val (.ref t)] [(.ref t)])) rfl (rest := []) rfl (hb hby dj41_1) _ ?_
    rw [len_of Sz101 Nn101]
    refine XS.iconst X0.here hx rfl (hb hby dj41_2) ?_
    refine XS.ishr X0.here hx rfl (hb hby dj41_3) rfl ?_
    show SP pg ev below (s₁.setTop (mkF mi 4 #[.val (.ref t)] [(.int ((Int32.ofNat (2 * cs.length)) >>> ((1 : Int32) &&& 31)))])) _
    exact retI X0 hx Bd.returns (hb hby dj41_4) hr
  · show Q_ulen Z t kt cs hE n0 _ s₁.heap _
    rw [eE]
    exact ⟨(congrArg (fun z => some (Value.int z)) (own_shr1 hl)), N0, rfl⟩
theorem dj14_0 : decode jc14 0 = .ok (.iload_n 0, 1) := by decide +kernel
theorem dj14_1 : decode jc14 1 = .ok (.iload_n 1, 1) := by decide +kernel
theorem dj14_2 : decode jc14 2 = .ok (.aload_n 2, 1) := by decide +kernel
theorem dj14_3 : decode jc14 3 = .ok (.invokestatic 48, 3) := by decide +kernel
theorem dj14_6 : decode jc14 6 = .ok (.invokestatic 241, 3) := by decide +kernel
theorem dj14_9 : decode jc14 9 = .ok (.return_, 1) := by decide +kernel
theorem pd_2 : parseMethodDescriptor "([B)I" = some ⟨[(.array .byte)], some .int⟩ := by decide +kernel
theorem pd_3 : parseMethodDescriptor "(III)V" = some ⟨[.int, .int, .int], none⟩ := by decide +kernel
theorem ef_ube (mi : MethodId) (b : Int32) (e : Int32) (t : Addr) : entryFrame mi #[(.int b), (.int e), (.ref t)] 3 = mkF mi 0 #[.val (.int b), .val (.int e), .val (.ref t)] [] := rfl
def Q_ube (Z : State) (b e : Int32) (t : Addr) (kt : ClassId) (cs : List Int32) (fm : Value) (hE : Heap) (n0 : Nat) (vv : Option Value) (hh : Heap) (LL : List Loc) : Prop := (vv = none) ∧ (Fr n0 LL) ∧ (hh = hE)
theorem rm_ube (hw : HW a0 Z) (ws : List Cond) (b e : Int32) (t : Addr) (kt : ClassId) (cs : List Int32) (fm : Value) (hE : Heap) (n0 : Nat) (O : Old Z n0 hE) (P0_ : Arv Z hE t kt .byte (Int32.ofNat (2 * cs.length)) (StrChars.Road.wideBytes cs) (.int 0)) (D0_ : Sta Z Z.heap c3_ c7_ c4_ fm) (h1 : ¬ (b < (0 : Int32))) (h2 : ¬ (e < b)) (h3 : ¬ ((Int32.ofNat cs.length) < e)) (hl : cs.length ≤ 4000) (hfm : fm.isRef = true) :
    MF la Z hE mn10 jc14 3 none ws (rr 2 0 0 29) #[(.int b), (.int e), (.ref t)] (Q_ube Z b e t kt cs fm hE n0) := by
  refine MetFree.of_bodySF (plainFor_of_name pn_java_lang_StringUTF16) hisR ?_
  intro pg ev sb mi gs below me cd s₁ Bd hml0 hPt hKt
  obtain ⟨rfl, hZ, hh⟩ := hPt
  have hx := Bd.exec
  have hby := Bd.bytes
  have hml : cd.maxLocals = 3 := hml0
  have hown : sb.vm.findClass c1_ = some mi.cls := findClass_of_methodNamed Bd.named
  have X0 : Stand pg la ev (rr 2 0 0 29) sb mi #[(.int b), (.int e), (.ref t)] below me cd s₁ [] 0 0 := Stand.of_body Bd
  have eE : s₁.heap = hE := by rw [← hh, Bd.state]; rfl
  have N0 := Fr.nil n0
  have pre0 : ∀ tt, SP pg ev below (s₁.setTop (mkF mi 0 #[.val (.int b), .val (.int e), .val (.ref t)] [])) tt → SP pg ev below (s₁.setTop (entryFrame mi #[(.int b), (.int e), (.ref t)] 3)) tt := fun tt kk => castTop (ef_ube mi b e t) kk
  obtain ⟨v101, _, ⟨T101, L101, k101, n101⟩, -, X101, ⟨Lc101, hQ101, l101, y101, z101⟩, st101⟩ := Jvm.LawKit.callS X0 hx (y := mn9) hown (mvT hZ (wd181 hw)) (mvT hZ (wd182 hw)) (mvT hZ (wd83 hw)) (mvT hZ (wd183 hw)) (by decide) (backOf (W := 2) (rm_ulen la Z a0 hw [] t kt cs hE n0 O P0_ (hl : cs.length ≤ 4000)) hZ (wd183 hw) (wd83 hw) (by decide) (by decide)) (g := (mkF mi 3 #[.val (.int b), .val (.int e), .val (.ref t)] [(.ref t), (.int e), (.int b)])) rfl (by rw [hml]; rfl) (argsL := [(.ref t)]) (rest := [(.int e), (.int b)]) (lenOf pd_2 rfl) rfl (Nat.le_of_ble_eq_true rfl) (hb hby dj14_3) (fun _ _ => ⟨rfl, eE, (by decide : 0 + 0 ≤ _), (by decide : 0 + 0 ≤ _)⟩)
  dsimp only [Pt.U, Pt.locs, Pt.cells, Pt.slots] at X101 l101 y101 z101 st101 hQ101
  subst l101 y101 z101
  obtain ⟨rfl, Nq101, ek101⟩ := hQ101
  have N101 := Fr.app N0 Nq101
  obtain ⟨v102, _, ⟨T102, L102, k102, n102⟩, -, X102, ⟨Lc102, hQ102, l102, y102, z102⟩, st102⟩ := Jvm.LawKit.callS X101 hx (y := mn8) hown (mvT hZ (wd184 hw)) (mvT hZ (wd105 hw)) (mvT hZ (wd11 hw)) (mvT hZ (wd106 hw)) (by decide) (backOf (W := 0) (rm_cbe la Z a0 hw [] b e (Int32.ofNat cs.length) fm hE n0 O D0_ (h1 : ¬ (b < (0 : Int32))) (h2 : ¬ (e < b)) (h3 : ¬ ((Int32.ofNat cs.length) < e)) (hfm : fm.isRef = true)) hZ (wd106 hw) (wd11 hw) (by decide) (by decide)) (g := (mkF mi 6 #[.val (.int b), .val (.int e), .val (.ref t)] [(.int (Int32.ofNat cs.length)), (.int e), (.int b)])) rfl (by rw [hml]; rfl) (argsL := [(.int b), (.int e), (.int (Int32.ofNat cs.length))]) (rest := []) (lenOf pd_3 rfl) rfl (Nat.le_of_ble_eq_true rfl) (hb hby dj14_6) (fun _ _ => ⟨rfl, ek101, (by decide : 0 + 0 ≤ _), (by decide : 0 + 0 ≤ _)⟩)
  dsimp only [Pt.U, Pt.locs, Pt.cells, Pt.slots] at X102 l102 y102 z102 st102 hQ102
  subst l102 y102 z102
  obtain ⟨rfl, Nq102, ek102⟩ := hQ102
  have N102 := Fr.app N101 Nq102
  obtain ⟨fs, hr, hrun, hended, hW, hsame⟩ := X102.leave (v := none) (fun _ => rfl)
  refine ⟨_, _, pre0 _ ?_, hrun, hended, _, _, rfl, ?_, ⟨_, rfl⟩, hW, hsame.mono (by decide) (by decide)⟩
  · show SP pg ev below (s₁.setTop (mkF mi 0 #[.val (.int b), .val (.int e), .val (.ref t)] [])) _
    refine XS.iloadN X0.here hx rfl (hb hby dj14_0) rfl ?_
    refine XS.iloadN X0.here hx rfl (hb hby dj14_1) rfl ?_
    refine XS.aloadN X0.here hx rfl (hb hby dj14_2) rfl rfl ?_
    refine st101 _ ?_
    refine st102 _ ?_
    show SP pg ev below (T102.setTop (mkF mi 9 #[.val (.int b), .val (.int e), .val (.ref t)] [])) _
    exact X102.returnOut hx Bd.returns (hb hby dj14_9) hr
  · show Q_ube Z b e t kt cs fm hE n0 _ T102.heap _
    rw [ek102]
    exact ⟨rfl, N102, rfl⟩
theorem dj15_0 : decode jc15 0 = .ok (.iload_n 2, 1) := by decide +kernel
theorem dj15_1 : decode jc15 1 = .ok (.iload_n 0, 1) := by decide +kernel
theorem dj15_2 : decode jc15 2 = .ok (.ior, 1) := by decide +kernel
theorem dj15_3 : decode jc15 3 = .ok (.iload_n 1, 1) := by decide +kernel
theorem dj15_4 : decode jc15 4 = .ok (.ior, 1) := by decide +kernel
theorem dj15_5 : decode jc15 5 = .ok (.ifCond .lt 10, 3) := by decide +kernel
theorem dj15_8 : decode jc15 8 = .ok (.iload_n 1, 1) := by decide +kernel
theorem dj15_9 : decode jc15 9 = .ok (.iload_n 2, 1) := by decide +kernel
theorem dj15_10 : decode jc15 10 = .ok (.iload_n 0, 1) := by decide +kernel
theorem dj15_11 : decode jc15 11 = .ok (.isub, 1) := by decide +kernel
theorem dj15_12 : decode jc15 12 = .ok (.if_icmp .le 11, 3) := by decide +kernel
theorem dj15_23 : decode jc15 23 = .ok (.iload_n 0, 1) := by decide +kernel
theorem dj15_24 : decode jc15 24 = .ok (.ireturn, 1) := by decide +kernel
theorem ef_cfs (mi : MethodId) (b : Int32) (m : Int32) (n : Int32) (fm : Value) (hx_fm : fm.isRef = true) : entryFrame mi #[(.int b), (.int m), (.int n), fm] 4 = mkF mi 0 #[.val (.int b), .val (.int m), .val (.int n), .val fm] [] := by rcases ref_cases hx_fm with rfl | ⟨_, rfl⟩ <;> (first | (simp [entryFrame, mkF, argsToLocals, Value.category]; done) | rfl)
def Q_cfs (Z : State) (b m n : Int32) (fm : Value) (hE : Heap) (n0 : Nat) (vv : Option Value) (hh : Heap) (LL : List Loc) : Prop := (vv = some (.int b)) ∧ (Fr n0 LL) ∧ (hh = hE)
theorem rm_cfs (hw : HW a0 Z) (ws : List Cond) (b m n : Int32) (fm : Value) (hE : Heap) (n0 : Nat) (O : Old Z n0 hE) (h1 : ¬ (((n ||| b) ||| m) < (0 : Int32))) (h2 : ¬ ((n - b) < m)) (hfm : fm.isRef = true) :
    MF la Z hE mn11 jc15 4 (some .int) ws (rr 0 0 0 0) #[(.int b), (.int m), (.int n), fm] (Q_cfs Z b m n fm hE n0) := by
  refine MetFree.of_bodySF (plainFor_of_name pn_jdk_internal_util_Preconditions) hisR ?_
  intro pg ev sb mi gs below me cd s₁ Bd hml0 hPt hKt
  obtain ⟨rfl, hZ, hh⟩ := hPt
  have hx := Bd.exec
  have hby := Bd.bytes
  have hml : cd.maxLocals = 4 := hml0
  have hown : sb.vm.findClass c3_ = some mi.cls := findClass_of_methodNamed Bd.named
  have X0 : Stand pg la ev (rr 0 0 0 0) sb mi #[(.int b), (.int m), (.int n), fm] below me cd s₁ [] 0 0 := Stand.of_body Bd
  have eE : s₁.heap = hE := by rw [← hh, Bd.state]; rfl
  have N0 := Fr.nil n0
  have pre0 : ∀ tt, SP pg ev below (s₁.setTop (mkF mi 0 #[.val (.int b), .val (.int m), .val (.int n), .val fm] [])) tt → SP pg ev below (s₁.setTop (entryFrame mi #[(.int b), (.int m), (.int n), fm] 4)) tt := fun tt kk => castTop (ef_cfs mi b m n fm hfm) kk
  obtain ⟨fs, hr, hrun, hended, hW, hsame⟩ := X0.leave (v := some (.int b)) (fun hq => by rw [Bd.returns] at hq; cases hq)
  refine ⟨_, _, pre0 _ ?_, hrun, hended, _, _, rfl, ?_, ⟨_, rfl⟩, hW, hsame.mono (by decide) (by decide)⟩
  · show SP pg ev below (s₁.setTop (mkF mi 0 #[.val (.int b), .val (.int m), .val (.int n), .val fm] [])) _
    refine XS.iloadN X0.here hx rfl (hb hby dj15_0) rfl ?_
    refine XS.iloadN X0.here hx rfl (hb hby dj15_1) rfl ?_
    refine XS.ior X0.here hx rfl (hb hby dj15_2) rfl ?_
    refine XS.iloadN X0.here hx rfl (hb hby dj15_3) rfl ?_
    refine XS.ior X0.here hx rfl (hb hby dj15_4) rfl ?_
    refine XS.ifNo X0.here hx rfl (hb hby dj15_5) rfl ((if0 _ _).trans (flt h1).1) ?_
    refine XS.iloadN X0.here hx rfl (hb hby dj15_8) rfl ?_
    refine XS.iloadN X0.here hx rfl (hb hby dj15_9) rfl ?_
    refine XS.iloadN X0.here hx rfl (hb hby dj15_10) rfl ?_
    refine XS.isub X0.here hx rfl (hb hby dj15_11) rfl ?_
    refine XS.icmpYes X0.here hx rfl (pc0 := 12) (pc' := 23) rfl (hb hby dj15_12) rfl (flt h2).2.2.2 (by decide) (by decide) ?_
    refine XS.iloadN X0.here hx rfl (hb hby dj15_23) rfl ?_
    show SP pg ev below (s₁.setTop (mkF mi 24 #[.val (.int b), .val (.int m), .val (.int n), .val fm] [(.int b)])) _
    exact retI X0 hx Bd.returns (hb hby dj15_24) hr
  · show Q_cfs Z b m n fm hE n0 _ s₁.heap _
    rw [eE]
    exact ⟨rfl, N0, rfl⟩
theorem dj3_0 : decode jc3 0 = .ok (.iload_n 0, 1) := by decide +kernel
theorem dj3_1 : decode jc3 1 = .ok (.iload_n 1, 1) := by decide +kernel
theorem dj3_2 : decode jc3 2 = .ok (.iload_n 2, 1) := by decide +kernel
theorem dj3_3 : decode jc3 3 = .ok (.getstatic 1053, 3) := by decide +kernel
theorem dj3_6 : decode jc3 6 = .ok (.invokestatic 1065, 3) := by decide +kernel
theorem dj3_9 : decode jc3 9 = .ok (.ireturn, 1) := by decide +kernel
theorem ef_cbo (mi : MethodId) (b : Int32) (m : Int32) (n : Int32) : entryFrame mi #[(.int b), (.int m), (.int n)] 3 = mkF mi 0 #[.val (.int b), .val (.int m), .val (.int n)] [] := rfl
def Q_cbo (Z : State) (b m n : Int32) (fm : Value) (hE : Heap) (n0 : Nat) (vv : Option Value) (hh : Heap) (LL : List Loc) : Prop := (vv = some (.int b)) ∧ (Fr n0 LL) ∧ (hh = hE)
theorem rm_cbo (hw : HW a0 Z) (ws : List Cond) (b m n : Int32) (fm : Value) (hE : Heap) (n0 : Nat) (O : Old Z n0 hE) (D0_ : Sta Z Z.heap c3_ c7_ c4_ fm) (h1 : ¬ (((n ||| b) ||| m) < (0 : Int32))) (h2 : ¬ ((n - b) < m)) (hfm : fm.isRef = true) :
    MF la Z hE mn12 jc3 3 (some .int) ws (rr 1 0 0 15) #[(.int b), (.int m), (.int n)] (Q_cbo Z b m n fm hE n0) := by
  refine MetFree.of_bodySF (plainFor_of_name pn_java_lang_String) hisR ?_
  intro pg ev sb mi gs below me cd s₁ Bd hml0 hPt hKt
  obtain ⟨rfl, hZ, hh⟩ := hPt
  have hx := Bd.exec
  have hby := Bd.bytes
  have hml : cd.maxLocals = 3 := hml0
  have hown : sb.vm.findClass c0_ = some mi.cls := findClass_of_methodNamed Bd.named
  have X0 : Stand pg la ev (rr 1 0 0 15) sb mi #[(.int b), (.int m), (.int n)] below me cd s₁ [] 0 0 := Stand.of_body Bd
  have eE : s₁.heap = hE := by rw [← hh, Bd.state]; rfl
  have N0 := Fr.nil n0
  have pre0 : ∀ tt, SP pg ev below (s₁.setTop (mkF mi 0 #[.val (.int b), .val (.int m), .val (.int n)] [])) tt → SP pg ev below (s₁.setTop (entryFrame mi #[(.int b), (.int m), (.int n)] 3)) tt := fun tt kk => castTop (ef_cbo mi b m n) kk
  obtain ⟨T101, X101, e101, st101⟩ := getS2 X0 hx hZ hown (host := "") (Or.inl (wd107 hw)) Via.refl eE (D0_.ext O.2) (g := (mkF mi 3 #[.val (.int b), .val (.int m), .val (.int n)] [(.int n), (.int m), (.int b)])) rfl (hb hby dj3_3)
  obtain ⟨v102, _, ⟨T102, L102, k102, n102⟩, -, X102, ⟨Lc102, hQ102, l102, y102, z102⟩, st102⟩ := Jvm.LawKit.callS X101 hx (y := mn11) hown (mvT hZ (wd205 hw)) (mvT hZ (wd206 hw)) (mvT hZ (wd108 hw)) (mvT hZ (wd207 hw)) (by decide) (backOf (W := 0) (rm_cfs la Z a0 hw [] b m n fm hE n0 O (h1 : ¬ (((n ||| b) ||| m) < (0 : Int32))) (h2 : ¬ ((n - b) < m)) (hfm : fm.isRef = true)) hZ (wd207 hw) (wd108 hw) (by decide) (by decide)) (g := (mkF mi 6 #[.val (.int b), .val (.int m), .val (.int n)] [fm, (.int n), (.int m), (.int b)])) rfl (by rw [hml]; rfl) (argsL := [(.int b), (.int m), (.int n), fm]) (rest := []) (lenOf pd_1 rfl) rfl (Nat.le_of_ble_eq_true rfl) (hb hby dj3_6) (fun _ _ => ⟨rfl, e101, (by decide : 0 + 0 ≤ _), (by decide : 0 + 0 ≤ _)⟩)
  dsimp only [Pt.U, Pt.locs, Pt.cells, Pt.slots] at X102 l102 y102 z102 st102 hQ102
  subst l102 y102 z102
  obtain ⟨rfl, Nq102, ek102⟩ := hQ102
  have N102 := Fr.app N0 Nq102
  obtain ⟨fs, hr, hrun, hended, hW, hsame⟩ := X102.leave (v := some (.int b)) (fun hq => by rw [Bd.returns] at hq; cases hq)
  refine ⟨_, _, pre0 _ ?_, hrun, hended, _, _, rfl, ?_, ⟨_, rfl⟩, hW, hsame.mono (by decide) (by decide)⟩
  · show SP pg ev below (s₁.setTop (mkF mi 0 #[.val (.int b), .val (.int m), .val (.int n)] [])) _
    refine XS.iloadN X0.here hx rfl (hb hby dj3_0) rfl ?_
    refine XS.iloadN X0.here hx rfl (hb hby dj3_1) rfl ?_
    refine XS.iloadN X0.here hx rfl (hb hby dj3_2) rfl ?_
    refine st101 _ ?_
    refine st102 _ ?_
    show SP pg ev below (T102.setTop (mkF mi 9 #[.val (.int b), .val (.int m), .val (.int n)] [(.int b)])) _
    exact retI X102 hx Bd.returns (hb hby dj3_9) hr
  · show Q_cbo Z b m n fm hE n0 _ T102.heap _
    rw [ek102]
    exact ⟨rfl, N102, rfl⟩
theorem dj16_0 : decode jc16 0 = .ok (.iload_n 0, 1) := by decide +kernel
theorem dj16_1 : decode jc16 1 = .ok (.iload_n 1, 1) := by decide +kernel
theorem dj16_2 : decode jc16 2 = .ok (.aload_n 2, 1) := by decide +kernel
theorem dj16_3 : decode jc16 3 = .ok (.invokestatic 48, 3) := by decide +kernel
theorem dj16_6 : decode jc16 6 = .ok (.invokestatic 419, 3) := by decide +kernel
theorem dj16_9 : decode jc16 9 = .ok (.pop, 1) := by decide +kernel
theorem dj16_10 : decode jc16 10 = .ok (.return_, 1) := by decide +kernel
theorem pd_4 : parseMethodDescriptor "(III)I" = some ⟨[.int, .int, .int], some .int⟩ := by decide +kernel
theorem ef_ubo (mi : MethodId) (b : Int32) (m : Int32) (t : Addr) : entryFrame mi #[(.int b), (.int m), (.ref t)] 3 = mkF mi 0 #[.val (.int b), .val (.int m), .val (.ref t)] [] := rfl
def Q_ubo (Z : State) (b m : Int32) (t : Addr) (kt : ClassId) (cs : List Int32) (fm : Value) (hE : Heap) (n0 : Nat) (vv : Option Value) (hh : Heap) (LL : List Loc) : Prop := (vv = none) ∧ (Fr n0 LL) ∧ (hh = hE)
theorem rm_ubo (hw : HW a0 Z) (ws : List Cond) (b m : Int32) (t : Addr) (kt : ClassId) (cs : List Int32) (fm : Value) (hE : Heap) (n0 : Nat) (O : Old Z n0 hE) (P0_ : Arv Z hE t kt .byte (Int32.ofNat (2 * cs.length)) (StrChars.Road.wideBytes cs) (.int 0)) (D0_ : Sta Z Z.heap c3_ c7_ c4_ fm) (h1 : ¬ ((((Int32.ofNat cs.length) ||| b) ||| m) < (0 : Int32))) (h2 : ¬ (((Int32.ofNat cs.length) - b) < m)) (hl : cs.length ≤ 4000) (hfm : fm.isRef = true) :
    MF la Z hE mn13 jc16 3 none ws (rr 2 0 0 29) #[(.int b), (.int m), (.ref t)] (Q_ubo Z b m t kt cs fm hE n0) := by
  refine MetFree.of_bodySF (plainFor_of_name pn_java_lang_StringUTF16) hisR ?_
  intro pg ev sb mi gs below me cd s₁ Bd hml0 hPt hKt
  obtain ⟨rfl, hZ, hh⟩ := hPt
  have hx := Bd.exec
  have hby := Bd.bytes
  have hml : cd.maxLocals = 3 := hml0
  have hown : sb.vm.findClass c1_ = some mi.cls := findClass_of_methodNamed Bd.named
  have X0 : Stand pg la ev (rr 2 0 0 29) sb mi #[(.int b), (.int m), (.ref t)] below me cd s₁ [] 0 0 := Stand.of_body Bd
  have eE : s₁.heap = hE := by rw [← hh, Bd.state]; rfl
  have N0 := Fr.nil n0
  have pre0 : ∀ tt, SP pg ev below (s₁.setTop (mkF mi 0 #[.val (.int b), .val (.int m), .val (.ref t)] [])) tt → SP pg ev below (s₁.setTop (entryFrame mi #[(.int b), (.int m), (.ref t)] 3)) tt := fun tt kk => castTop (ef_ubo mi b m t) kk
  obtain ⟨v101, _, ⟨T101, L101, k101, n101⟩, -, X101, ⟨Lc101, hQ101, l101, y101, z101⟩, st101⟩ := Jvm.LawKit.callS X0 hx (y := mn9) hown (mvT hZ (wd181 hw)) (mvT hZ (wd182 hw)) (mvT hZ (wd83 hw)) (mvT hZ (wd183 hw)) (by decide) (backOf (W := 2) (rm_ulen la Z a0 hw [] t kt cs hE n0 O P0_ (hl : cs.length ≤ 4000)) hZ (wd183 hw) (wd83 hw) (by decide) (by decide)) (g := (mkF mi 3 #[.val (.int b), .val (.int m), .val (.ref t)] [(.ref t), (.int m), (.int b)])) rfl (by rw [hml]; rfl) (argsL := [(.ref t)]) (rest := [(.int m), (.int b)]) (lenOf pd_2 rfl) rfl (Nat.le_of_ble_eq_true rfl) (hb hby dj16_3) (fun _ _ => ⟨rfl, eE, (by decide : 0 + 0 ≤ _), (by decide : 0 + 0 ≤ _)⟩)
  dsimp only [Pt.U, Pt.locs, Pt.cells, Pt.slots] at X101 l101 y101 z101 st101 hQ101
  subst l101 y101 z101
  obtain ⟨rfl, Nq101, ek101⟩ := hQ101
  have N101 := Fr.app N0 Nq101
  obtain ⟨v102, _, ⟨T102, L102, k102, n102⟩, -, X102, ⟨Lc102, hQ102, l102, y102, z102⟩, st102⟩ := Jvm.LawKit.callS X101 hx (y := mn12) hown (mvT hZ (wd202 hw)) (mvT hZ (wd203 hw)) (mvT hZ (wd11 hw)) (mvT hZ (wd204 hw)) (by decide) (backOf (W := 0) (rm_cbo la Z a0 hw [] b m (Int32.ofNat cs.length) fm hE n0 O D0_ (h1 : ¬ ((((Int32.ofNat cs.length) ||| b) ||| m) < (0 : Int32))) (h2 : ¬ (((Int32.ofNat cs.length) - b) < m)) (hfm : fm.isRef = true)) hZ (wd204 hw) (wd11 hw) (by decide) (by decide)) (g := (mkF mi 6 #[.val (.int b), .val (.int m), .val (.ref t)] [(.int (Int32.ofNat cs.length)), (.int m), (.int b)])) rfl (by rw [hml]; rfl) (argsL := [(.int b), (.int m), (.int (Int32.ofNat cs.length))]) (rest := []) (lenOf pd_4 rfl) rfl (Nat.le_of_ble_eq_true rfl) (hb hby dj16_6) (fun _ _ => ⟨rfl, ek101, (by decide : 0 + 0 ≤ _), (by decide : 0 + 0 ≤ _)⟩)
  dsimp only [Pt.U, Pt.locs, Pt.cells, Pt.slots] at X102 l102 y102 z102 st102 hQ102
  subst l102 y102 z102
  obtain ⟨rfl, Nq102, ek102⟩ := hQ102
  have N102 := Fr.app N101 Nq102
  obtain ⟨fs, hr, hrun, hended, hW, hsame⟩ := X102.leave (v := none) (fun _ => rfl)
  refine ⟨_, _, pre0 _ ?_, hrun, hended, _, _, rfl, ?_, ⟨_, rfl⟩, hW, hsame.mono (by decide) (by decide)⟩
  · show SP pg ev below (s₁.setTop (mkF mi 0 #[.val (.int b), .val (.int m), .val (.ref t)] [])) _
    refine XS.iloadN X0.here hx rfl (hb hby dj16_0) rfl ?_
    refine XS.iloadN X0.here hx rfl (hb hby dj16_1) rfl ?_
    refine XS.aloadN X0.here hx rfl (hb hby dj16_2) rfl rfl ?_
    refine st101 _ ?_
    refine st102 _ ?_
    refine XS.pop X102.here hx rfl (hb hby dj16_9) rfl rfl ?_
    show SP pg ev below (T102.setTop (mkF mi 10 #[.val (.int b), .val (.int m), .val (.ref t)] [])) _
    exact X102.returnOut hx Bd.returns (hb hby dj16_10) hr
  · show Q_ubo Z b m t kt cs fm hE n0 _ T102.heap _
    rw [ek102]
    exact ⟨rfl, N102, rfl⟩
theorem dj17_0 : decode jc17 0 = .ok (.iload_n 1, 1) := by decide +kernel
theorem dj17_1 : decode jc17 1 = .ok (.aload_n 0, 1) := by decide +kernel
theorem dj17_2 : decode jc17 2 = .ok (.arraylength, 1) := by decide +kernel
theorem dj17_3 : decode jc17 3 = .ok (.isub, 1) := by decide +kernel
theorem dj17_4 : decode jc17 4 = .ok (.bipush 31, 2) := by decide +kernel
theorem dj17_6 : decode jc17 6 = .ok (.iushr, 1) := by decide +kernel
theorem dj17_7 : decode jc17 7 = .ok (.i2b, 1) := by decide +kernel
theorem dj17_8 : decode jc17 8 = .ok (.ireturn, 1) := by decide +kernel
theorem ef_cfw (mi : MethodId) (t : Addr) (j : Int32) : entryFrame mi #[(.ref t), (.int j)] 2 = mkF mi 0 #[.val (.ref t), .val (.int j)] [] := rfl
def Q_cfw (Z : State) (t : Addr) (j : Int32) (kt : ClassId) (N2 : Int32) (vs : List Value) (ck : Int32) (cs : List Int32) (hE : Heap) (n0 : Nat) (vv : Option Value) (hh : Heap) (LL : List Loc) : Prop := (vv = some (.int ck)) ∧ (Fr n0 LL) ∧ (hh = hE)
theorem rm_cfw (hw : HW a0 Z) (ws : List Cond) (t : Addr) (j : Int32) (kt : ClassId) (N2 : Int32) (vs : List Value) (ck : Int32) (cs : List Int32) (hE : Heap) (n0 : Nat) (O : Old Z n0 hE) (P0_ : Arv Z hE t kt .byte N2 vs (.int 0)) (hj : j = Int32.ofNat cs.length) (h0 : 0 < cs.length) (h4 : cs.length ≤ 4) (hcod : StrChars.Road.CodA cs ck N2 vs) :
    MF la Z hE mn14 jc17 2 (some .byte) ws (rr 0 0 0 0) #[(.ref t), (.int j)] (Q_cfw Z t j kt N2 vs ck cs hE n0) := by
  refine MetFree.of_bodySF (plainFor_of_name pn_java_lang_StringUTF16) hisR ?_
  intro pg ev sb mi gs below me cd s₁ Bd hml0 hPt hKt
  obtain ⟨rfl, hZ, hh⟩ := hPt
  have hx := Bd.exec
  have hby := Bd.bytes
  have hml : cd.maxLocals = 2 := hml0
  have hown : sb.vm.findClass c1_ = some mi.cls := findClass_of_methodNamed Bd.named
  have X0 : Stand pg la ev (rr 0 0 0 0) sb mi #[(.ref t), (.int j)] below me cd s₁ [] 0 0 := Stand.of_body Bd
  have eE : s₁.heap = hE := by rw [← hh, Bd.state]; rfl
  have N0 := Fr.nil n0
  have pre0 : ∀ tt, SP pg ev below (s₁.setTop (mkF mi 0 #[.val (.ref t), .val (.int j)] [])) tt → SP pg ev below (s₁.setTop (entryFrame mi #[(.ref t), (.int j)] 2)) tt := fun tt kk => castTop (ef_cfw mi t j) kk
  obtain ⟨cl101, Ar101, -, Sz101, Nn101, -, -⟩ := id P0_
  obtain ⟨fs, hr, hrun, hended, hW, hsame⟩ := X0.leave (v := some (.int (nar .byte ((((j - N2).toUInt32 >>> ((31 : Int32) &&& 31).toUInt32).toInt32).toInt8.toInt32)))) (fun hq => by rw [Bd.returns] at hq; cases hq)
  refine ⟨_, _, pre0 _ ?_, hrun, hended, _, _, rfl, ?_, ⟨_, rfl⟩, hW, hsame.mono (by decide) (by decide)⟩
  · show SP pg ev below (s₁.setTop (mkF mi 0 #[.val (.ref t), .val (.int j)] [])) _
    refine XS.iloadN X0.here hx rfl (hb hby dj17_0) rfl ?_
    refine XS.aloadN X0.here hx rfl (hb hby dj17_1) rfl rfl ?_
    refine X0.arraylength hx (cell := cl101) (by rw [eE]; exact Ar101.1) (State.isArrayOf_alike hZ.alike Ar101.2.1) (g := (mkF mi 2 #[.val (.ref t), .val (.int j)] [(.ref t), (.int j)])) rfl (rest := [(.int j)]) rfl (hb hby dj17_2) _ ?_
    rw [len_of Sz101 Nn101]
    refine XS.isub X0.here hx rfl (hb hby dj17_3) rfl ?_
    refine XS.bipush X0.here hx rfl (hb hby dj17_4) ?_
    refine XS.iushr X0.here hx rfl (hb hby dj17_6) rfl ?_
    refine XS.i2b X0.here hx rfl (hb hby dj17_7) rfl ?_
    show SP pg ev below (s₁.setTop (mkF mi 8 #[.val (.ref t), .val (.int j)] [(.int ((((j - N2).toUInt32 >>> ((31 : Int32) &&& 31).toUInt32).toInt32).toInt8.toInt32))])) _
    exact retN X0 hx (t := .byte) Bd.returns (by simp) (hb hby dj17_8) hr
  · show Q_cfw Z t j kt N2 vs ck cs hE n0 _ s₁.heap _
    rw [eE]
    exact ⟨(congrArg (fun z => some (Value.int z)) (own_cfw hj h0 h4 hcod)), N0, rfl⟩
theorem dj42_0 : decode jc42 0 = .ok (.iload_n 0, 1) := by decide +kernel
theorem dj42_1 : decode jc42 1 = .ok (.ifCond .ge 11, 3) := by decide +kernel
theorem dj42_12 : decode jc42 12 = .ok (.iload_n 0, 1) := by decide +kernel
theorem dj42_13 : decode jc42 13 = .ok (.ldc 20, 2) := by decide +kernel
theorem dj42_15 : decode jc42 15 = .ok (.if_icmp .lt 40, 3) := by decide +kernel
theorem dj42_55 : decode jc42 55 = .ok (.iload_n 0, 1) := by decide +kernel
theorem dj42_56 : decode jc42 56 = .ok (.iconst 1, 1) := by decide +kernel
theorem dj42_57 : decode jc42 57 = .ok (.ishl, 1) := by decide +kernel
theorem dj42_58 : decode jc42 58 = .ok (.ireturn, 1) := by decide +kernel
theorem ef_nbl (mi : MethodId) (i : Nat) : entryFrame mi #[(.int (Int32.ofNat i))] 1 = mkF mi 0 #[.val (.int (Int32.ofNat i))] [] := rfl
def Q_nbl (Z : State) (i : Nat) (hE : Heap) (n0 : Nat) (vv : Option Value) (hh : Heap) (LL : List Loc) : Prop := (vv = some (.int (Int32.ofNat (2 * i)))) ∧ (Fr n0 LL) ∧ (hh = hE)
theorem rm_nbl (hw : HW a0 Z) (ws : List Cond) (i : Nat) (hE : Heap) (n0 : Nat) (O : Old Z n0 hE) (hi : i ≤ 4000) :
    MF la Z hE mn15 jc42 1 (some .int) ws (rr 0 0 0 0) #[(.int (Int32.ofNat i))] (Q_nbl Z i hE n0) := by
  refine MetFree.of_bodySF (plainFor_of_name pn_java_lang_StringUTF16) hisR ?_
  intro pg ev sb mi gs below me cd s₁ Bd hml0 hPt hKt
  obtain ⟨rfl, hZ, hh⟩ := hPt
  have hx := Bd.exec
  have hby := Bd.bytes
  have hml : cd.maxLocals = 1 := hml0
  have hown : sb.vm.findClass c1_ = some mi.cls := findClass_of_methodNamed Bd.named
  have X0 : Stand pg la ev (rr 0 0 0 0) sb mi #[(.int (Int32.ofNat i))] below me cd s₁ [] 0 0 := Stand.of_body Bd
  have eE : s₁.heap = hE := by rw [← hh, Bd.state]; rfl
  have N0 := Fr.nil n0
  have pre0 : ∀ tt, SP pg ev below (s₁.setTop (mkF mi 0 #[.val (.int (Int32.ofNat i))] [])) tt → SP pg ev below (s₁.setTop (entryFrame mi #[(.int (Int32.ofNat i))] 1)) tt := fun tt kk => castTop (ef_nbl mi i) kk
  obtain ⟨fs, hr, hrun, hended, hW, hsame⟩ := X0.leave (v := some (.int ((Int32.ofNat i) <<< ((1 : Int32) &&& 31)))) (fun hq => by rw [Bd.returns] at hq; cases hq)
  refine ⟨_, _, pre0 _ ?_, hrun, hended, _, _, rfl, ?_, ⟨_, rfl⟩, hW, hsame.mono (by decide) (by decide)⟩
  · show SP pg ev below (s₁.setTop (mkF mi 0 #[.val (.int (Int32.ofNat i))] [])) _
    refine XS.iloadN X0.here hx rfl (hb hby dj42_0) rfl ?_
    refine XS.ifYes X0.here hx rfl (pc0 := 1) (pc' := 12) rfl (hb hby dj42_1) rfl ((if0 _ _).trans (flt (own_nn8 (by omega))).2.1) (by decide) (by decide) ?_
    refine XS.iloadN X0.here hx rfl (hb hby dj42_12) rfl ?_
    refine X0.ldcInt hx hown (mvT hZ (wd159 hw)) (g := (mkF mi 13 #[.val (.int (Int32.ofNat i))] [(.int (Int32.ofNat i))])) rfl (hb hby dj42_13) _ ?_
    refine XS.icmpYes X0.here hx rfl (pc0 := 15) (pc' := 55) rfl (hb hby dj42_15) rfl (tlt (by rw [Int32.lt_iff_toInt_lt, Int32.toInt_ofNat_small (by omega), show (1073741823 : Int32).toInt = 1073741823 from by decide]; omega)).1 (by decide) (by decide) ?_
    refine XS.iloadN X0.here hx rfl (hb hby dj42_55) rfl ?_
    refine XS.iconst X0.here hx rfl (hb hby dj42_56) ?_
    refine XS.ishl X0.here hx rfl (hb hby dj42_57) rfl ?_
    show SP pg ev below (s₁.setTop (mkF mi 58 #[.val (.int (Int32.ofNat i))] [(.int ((Int32.ofNat i) <<< ((1 : Int32) &&& 31)))])) _
    exact retI X0 hx Bd.returns (hb hby dj42_58) hr
  · show Q_nbl Z i hE n0 _ s₁.heap _
    rw [eE]
    exact ⟨(congrArg (fun z => some (Value.int z)) (own_shl1 hi)), N0, rfl⟩
theorem dj43_0 : decode jc43 0 = .ok (.iload_n 0, 1) := by decide +kernel
theorem dj43_1 : decode jc43 1 = .ok (.invokestatic 11, 3) := by decide +kernel
theorem dj43_4 : decode jc43 4 = .ok (.newarray .byte, 2) := by decide +kernel
theorem dj43_6 : decode jc43 6 = .ok (.areturn, 1) := by decide +kernel
theorem pd_5 : parseMethodDescriptor "(I)I" = some ⟨[.int], some .int⟩ := by decide +kernel
theorem ef_nbf (mi : MethodId) (i : Nat) : entryFrame mi #[(.int (Int32.ofNat i))] 1 = mkF mi 0 #[.val (.int (Int32.ofNat i))] [] := rfl
def Q_nbf (Z : State) (i : Nat) (hE : Heap) (n0 : Nat) (vv : Option Value) (hh : Heap) (LL : List Loc) : Prop := ∃ t : Addr, ∃ kt : ClassId, (vv = some (.ref t)) ∧ (Fr n0 LL) ∧ (Keep hE hh []) ∧ (hE.size ≤ t) ∧ (Arv Z hh t kt .byte (Int32.ofNat (2 * i)) ([] ++ List.replicate (2 * i) (Value.int 0)) (.int 0))
theorem rm_nbf (hw : HW a0 Z) (ws : List Cond) (i : Nat) (hE : Heap) (n0 : Nat) (O : Old Z n0 hE) (hi : i ≤ 4) :
    MF la Z hE mn16 jc43 1 (some (.array .byte)) ws (rr 1 1 8 12) #[(.int (Int32.ofNat i))] (Q_nbf Z i hE n0) := by
  refine MetFree.of_bodySF (plainFor_of_name pn_java_lang_StringUTF16) hisR ?_
  intro pg ev sb mi gs below me cd s₁ Bd hml0 hPt hKt
  obtain ⟨rfl, hZ, hh⟩ := hPt
  have hx := Bd.exec
  have hby := Bd.bytes
  have hml : cd.maxLocals = 1 := hml0
  have hown : sb.vm.findClass c1_ = some mi.cls := findClass_of_methodNamed Bd.named
  have X0 : Stand pg la ev (rr 1 1 8 12) sb mi #[(.int (Int32.ofNat i))] below me cd s₁ [] 0 0 := Stand.of_body Bd
  have eE : s₁.heap = hE := by rw [← hh, Bd.state]; rfl
  have N0 := Fr.nil n0
  have pre0 : ∀ tt, SP pg ev below (s₁.setTop (mkF mi 0 #[.val (.int (Int32.ofNat i))] [])) tt → SP pg ev below (s₁.setTop (entryFrame mi #[(.int (Int32.ofNat i))] 1)) tt := fun tt kk => castTop (ef_nbf mi i) kk
  obtain ⟨v101, _, ⟨T101, L101, k101, n101⟩, -, X101, ⟨Lc101, hQ101, l101, y101, z101⟩, st101⟩ := Jvm.LawKit.callS X0 hx (y := mn15) hown (mvT hZ (wd156 hw)) (mvT hZ (wd157 hw)) (mvT hZ (wd83 hw)) (mvT hZ (wd158 hw)) (by decide) (backOf (W := 0) (rm_nbl la Z a0 hw [] i hE n0 O (by omega : i ≤ 4000)) hZ (wd158 hw) (wd83 hw) (by decide) (by decide)) (g := (mkF mi 1 #[.val (.int (Int32.ofNat i))] [(.int (Int32.ofNat i))])) rfl (by rw [hml]; rfl) (argsL := [(.int (Int32.ofNat i))]) (rest := []) (lenOf pd_5 rfl) rfl (Nat.le_of_ble_eq_true rfl) (hb hby dj43_1) (fun _ _ => ⟨rfl, eE, (by decide : 0 + 0 ≤ _), (by decide : 0 + 0 ≤ _)⟩)
  dsimp only [Pt.U, Pt.locs, Pt.cells, Pt.slots] at X101 l101 y101 z101 st101 hQ101
  subst l101 y101 z101
  obtain ⟨rfl, Nq101, ek101⟩ := hQ101
  have N101 := Fr.app N0 Nq101
  obtain ⟨T102, h102, k102, X102, e102, E102, A102, st102⟩ := newP (aty := .byte) X101 hx hZ (wd23 hw) ek101 (g := (mkF mi 4 #[.val (.int (Int32.ofNat i))] [(.int (Int32.ofNat (2 * i)))])) rfl (hb hby dj43_4) rfl (own_nn8 (by omega)) (cap := 8) (by rw [own_wn (by omega)]; omega) (by decide) (by decide) (by decide)
  obtain ⟨b102, q102⟩ : ∃ z, z = hE.size := ⟨_, rfl⟩
  rw [← q102] at A102 st102
  have f103 : Arv Z h102 b102 k102 .byte (Int32.ofNat (2 * i)) ([] ++ List.replicate (2 * i) (Value.int 0)) (.int 0) := (Arv.new A102 (own_nn8 (by omega))).pad (pad_rep [] (.int 0) (2 * i))
  obtain ⟨fs, hr, hrun, hended, hW, hsame⟩ := X102.leave (v := some (.ref b102)) (fun hq => by rw [Bd.returns] at hq; cases hq)
  refine ⟨_, _, pre0 _ ?_, hrun, hended, _, _, rfl, ?_, ⟨_, rfl⟩, hW, hsame.mono (by decide) (by decide)⟩
  · show SP pg ev below (s₁.setTop (mkF mi 0 #[.val (.int (Int32.ofNat i))] [])) _
    refine XS.iloadN X0.here hx rfl (hb hby dj43_0) rfl ?_
    refine st101 _ ?_
    refine st102 _ ?_
    show SP pg ev below (T102.setTop (mkF mi 6 #[.val (.int (Int32.ofNat i))] [(.ref b102)])) _
    jvm_step X102.here [X102.here.top, hx, (hb hby dj43_6), X102.method', Bd.returns, Value.isRef, FieldType.isReference]
    first | (intro acts; rw [hr _ acts rfl rfl rfl]) | rw [hr _ _ rfl rfl rfl]
    exact Steps.refl _
  · show Q_nbf Z i hE n0 _ T102.heap _
    rw [e102]
    exact ⟨b102, k102, rfl, N101, ((Keep.refl hE []).ext E102), (Nat.le_of_eq q102.symm), f103⟩
theorem dj18_0 : decode jc18 0 = .ok (.iload_n 2, 1) := by decide +kernel
theorem dj18_1 : decode jc18 1 = .ok (.invokestatic 107, 3) := by decide +kernel
theorem dj18_4 : decode jc18 4 = .ok (.astore_n 3, 1) := by decide +kernel
theorem dj18_5 : decode jc18 5 = .ok (.iconst 0, 1) := by decide +kernel
theorem dj18_6 : decode jc18 6 = .ok (.istore 4, 2) := by decide +kernel
theorem dj18_8 : decode jc18 8 = .ok (.iload 4, 2) := by decide +kernel
theorem dj18_10 : decode jc18 10 = .ok (.iload_n 2, 1) := by decide +kernel
theorem dj18_11 : decode jc18 11 = .ok (.if_icmp .ge 21, 3) := by decide +kernel
theorem dj18_14 : decode jc18 14 = .ok (.aload_n 3, 1) := by decide +kernel
theorem dj18_15 : decode jc18 15 = .ok (.iload 4, 2) := by decide +kernel
theorem dj18_17 : decode jc18 17 = .ok (.aload_n 0, 1) := by decide +kernel
theorem dj18_18 : decode jc18 18 = .ok (.iload_n 1, 1) := by decide +kernel
theorem dj18_19 : decode jc18 19 = .ok (.caload, 1) := by decide +kernel
theorem dj18_20 : decode jc18 20 = .ok (.invokestatic 111, 3) := by decide +kernel
theorem dj18_23 : decode jc18 23 = .ok (.iinc 1 1, 3) := by decide +kernel
theorem dj18_26 : decode jc18 26 = .ok (.iinc 4 1, 3) := by decide +kernel
theorem dj18_29 : decode jc18 29 = .ok (.goto (-21), 3) := by decide +kernel
theorem dj18_32 : decode jc18 32 = .ok (.aload_n 3, 1) := by decide +kernel
theorem dj18_33 : decode jc18 33 = .ok (.areturn, 1) := by decide +kernel
theorem pd_6 : parseMethodDescriptor "(I)[B" = some ⟨[.int], some (.array .byte)⟩ := by decide +kernel
theorem pd_7 : parseMethodDescriptor "([BII)V" = some ⟨[(.array .byte), .int, .int], none⟩ := by decide +kernel
theorem ef_tbX (mi : MethodId) (v : Addr) (cs : List Int32) : entryFrame mi #[(.ref v), (.int 0), (.int (Int32.ofNat cs.length))] 5 = mkF mi 0 #[.val (.ref v), .val (.int 0), .val (.int (Int32.ofNat cs.length)), .unset, .unset] [] := rfl
def Q_tbX (Z : State) (v : Addr) (kv : ClassId) (cs : List Int32) (hE : Heap) (n0 : Nat) (vv : Option Value) (hh : Heap) (LL : List Loc) : Prop := ∃ t : Addr, ∃ kt : ClassId, (vv = some (.ref t)) ∧ (Fr n0 LL) ∧ (Keep hE hh []) ∧ (hE.size ≤ t) ∧ (Arv Z hh t kt .byte (Int32.ofNat (2 * cs.length)) (StrChars.Road.wideBytes cs) (.int 0))
theorem rm_tbX (hw : HW a0 Z) (ws : List Cond) (v : Addr) (kv : ClassId) (cs : List Int32) (hE : Heap) (n0 : Nat) (O : Old Z n0 hE) (P0_ : Arv Z hE v kv .char (Int32.ofNat cs.length) (cs.map Value.int) (.int 0)) (D0_ : Sta Z Z.heap c1_ c6_ "Z" (.int 1)) (D1_ : Sta Z Z.heap c1_ c9_ "I" (.int 0)) (D2_ : Sta Z Z.heap c1_ c10_ "I" (.int 8)) (h0 : 0 < cs.length) (h4 : cs.length ≤ 4) :
    MF la Z hE mn17 jc18 5 (some (.array .byte)) ws (rr 2 1 8 24) #[(.ref v), (.int 0), (.int (Int32.ofNat cs.length))] (Q_tbX Z v kv cs hE n0) := by
  refine MetFree.of_bodySF (plainFor_of_name pn_java_lang_StringUTF16) hisR ?_
  intro pg ev sb mi gs below me cd s₁ Bd hml0 hPt hKt
  obtain ⟨rfl, hZ, hh⟩ := hPt
  have hx := Bd.exec
  have hby := Bd.bytes
  have hml : cd.maxLocals = 5 := hml0
  have hown : sb.vm.findClass c1_ = some mi.cls := findClass_of_methodNamed Bd.named
  have X0 : Stand pg la ev (rr 2 1 8 24) sb mi #[(.ref v), (.int 0), (.int (Int32.ofNat cs.length))] below me cd s₁ [] 0 0 := Stand.of_body Bd
  have eE : s₁.heap = hE := by rw [← hh, Bd.state]; rfl
  have N0 := Fr.nil n0
  have pre0 : ∀ tt, SP pg ev below (s₁.setTop (mkF mi 0 #[.val (.ref v), .val (.int 0), .val (.int (Int32.ofNat cs.length)), .unset, .unset] [])) tt → SP pg ev below (s₁.setTop (entryFrame mi #[(.ref v), (.int 0), (.int (Int32.ofNat cs.length))] 5)) tt := fun tt kk => castTop (ef_tbX mi v cs) kk
  obtain ⟨v101, _, ⟨T101, L101, k101, n101⟩, -, X101, ⟨Lc101, hQ101, l101, y101, z101⟩, st101⟩ := Jvm.LawKit.callS X0 hx (y := mn16) hown (mvT hZ (wd153 hw)) (mvT hZ (wd154 hw)) (mvT hZ (wd83 hw)) (mvT hZ (wd155 hw)) (by decide) (backOf (W := 0) (rm_nbf la Z a0 hw [] cs.length hE n0 O (h4 : cs.length ≤ 4)) hZ (wd155 hw) (wd83 hw) (by decide) (by decide)) (g := (mkF mi 1 #[.val (.ref v), .val (.int 0), .val (.int (Int32.ofNat cs.length)), .unset, .unset] [(.int (Int32.ofNat cs.length))])) rfl (by rw [hml]; rfl) (argsL := [(.int (Int32.ofNat cs.length))]) (rest := []) (lenOf pd_6 rfl) rfl (Nat.le_of_ble_eq_true rfl) (hb hby dj18_1) (fun _ _ => ⟨rfl, eE, (by decide : 0 + 1 ≤ _), (by decide : 0 + 8 ≤ _)⟩)
  dsimp only [Pt.U, Pt.locs, Pt.cells, Pt.slots] at X101 l101 y101 z101 st101 hQ101
  subst l101 y101 z101
  obtain ⟨t_101, kt_101, rfl, Nq101, Kq101, fr_t_101, r101_0⟩ := hQ101
  have N101 := Fr.app N0 Nq101
  have f102 : Arv Z T101.heap v kv .char (Int32.ofNat cs.length) (cs.map Value.int) (.int 0) := (P0_.keep Kq101 nin0)
  obtain ⟨cl103, Ar103, -, Sz103, Nn103, Hh103, -⟩ := id f102
  have hin103 : ¬ ((0 : Int32) < 0 ∨ cl103.slots.size ≤ ((0 : Int32)).toNatClampNeg) := inb_of Sz103 (own_w0 (n := 0) (m := cs.length) (by omega) (by omega))
  have hat103 : cl103.slots[((0 : Int32)).toNatClampNeg]? = some (.int (cs.getD 0 0)) := Hh103.at hin103 (own_cget (i := 0) (by omega))
  have O104 : Old Z n0 T101.heap := (O.keep Kq101 all0)
  have g_t_101 : n0 ≤ t_101 := Nat.le_trans (Nat.le_trans (Nat.le_of_eq O.1.symm) O.2.1) fr_t_101
  obtain ⟨v105, _, ⟨T105, L105, k105, n105⟩, -, X105, ⟨Lc105, hQ105, l105, y105, z105⟩, st105⟩ := Jvm.LawKit.callS X101 hx (y := mn1) hown (mvT hZ (wd160 hw)) (mvT hZ (wd161 hw)) (mvT hZ (wd83 hw)) (mvT hZ (wd162 hw)) (by decide) (backOf (W := 0) (rm_pch la Z a0 hw [] t_101 (0 : Int32) (cs.getD 0 0) kt_101 (([] ++ List.replicate (2 * cs.length) (Value.int 0)) : List Value) 0 (2 * cs.length) T101.heap n0 O104 r101_0 D0_ D1_ D2_ g_t_101 (rfl : (0 : Int32) = Int32.ofNat 0) (by omega : 2 * 0 + 1 < (2 * cs.length)) (by simp only [List.length_set, List.nil_append, List.length_replicate] : (([] ++ List.replicate (2 * cs.length) (Value.int 0)) : List Value).length = (2 * cs.length)) (by omega : (2 * cs.length) ≤ 8000)) hZ (wd162 hw) (wd83 hw) (by decide) (by decide)) (g := (mkF mi 20 #[.val (.ref v), .val (.int 0), .val (.int (Int32.ofNat cs.length)), .val (.ref t_101), .val (.int 0)] [(.int (cs.getD 0 0)), (.int 0), (.ref t_101)])) rfl (by rw [hml]; rfl) (argsL := [(.ref t_101), (.int 0), (.int (cs.getD 0 0))]) (rest := []) (lenOf pd_7 rfl) rfl (Nat.le_of_ble_eq_true rfl) (hb hby dj18_20) (fun _ _ => ⟨rfl, rfl, (by decide : 1 + 0 ≤ _), (by decide : 8 + 0 ≤ _)⟩)
  dsimp only [Pt.U, Pt.locs, Pt.cells, Pt.slots] at X105 l105 y105 z105 st105 hQ105
  subst l105 y105 z105
  obtain ⟨rfl, Nq105, Kq105, r105_0⟩ := hQ105
  have N105 := Fr.app N101 Nq105
  have pre107 : ∀ tt, SP pg ev below (T105.setTop (mkF mi 11 #[.val (.ref v), .val (.int 1), .val (.int (Int32.ofNat cs.length)), .val (.ref t_101), .val (.int 1)] [(.int (Int32.ofNat cs.length)), (.int 1)])) tt → SP pg ev below (s₁.setTop (entryFrame mi #[(.ref v), (.int 0), (.int (Int32.ofNat cs.length))] 5)) tt := fun tt kk => pre0 _ (by
    show SP pg ev below (s₁.setTop (mkF mi 0 #[.val (.ref v), .val (.int 0), .val (.int (Int32.ofNat cs.length)), .unset, .unset] [])) _
    refine XS.iloadN X0.here hx rfl (hb hby dj18_0) rfl ?_
    refine st101 _ ?_
    refine XS.astoreN X101.here hx rfl (hb hby dj18_4) rfl rfl (l' := #[.val (.ref v), .val (.int 0), .val (.int (Int32.ofNat cs.length)), .val (.ref t_101), .unset]) rfl ?_
    refine XS.iconst X101.here hx rfl (hb hby dj18_5) ?_
    refine XS.istore X101.here hx rfl (hb hby dj18_6) rfl (l' := #[.val (.ref v), .val (.int 0), .val (.int (Int32.ofNat cs.length)), .val (.ref t_101), .val (.int 0)]) rfl ?_
    refine XS.iload X101.here hx rfl (hb hby dj18_8) rfl ?_
    refine XS.iloadN X101.here hx rfl (hb hby dj18_10) rfl ?_
    refine XS.icmpNo X101.here hx rfl (hb hby dj18_11) rfl (tlt ((own_lt8 (a := 0) (b := cs.length) (by omega) (by omega)).mpr (by omega))).2.1 ?_
    refine XS.aloadN X101.here hx rfl (hb hby dj18_14) rfl rfl ?_
    refine XS.iload X101.here hx rfl (hb hby dj18_15) rfl ?_
    refine XS.aloadN X101.here hx rfl (hb hby dj18_17) rfl rfl ?_
    refine XS.iloadN X101.here hx rfl (hb hby dj18_18) rfl ?_
    refine X101.caload hx (j := (0 : Int32)) (v := (.int (cs.getD 0 0))) Ar103.1 (State.isArrayOf_alike hZ.alike Ar103.2.1) Ar103.2.2 hin103 hat103 (g := (mkF mi 19 #[.val (.ref v), .val (.int 0), .val (.int (Int32.ofNat cs.length)), .val (.ref t_101), .val (.int 0)] [(.int 0), (.ref v), (.int 0), (.ref t_101)])) rfl rfl (hb hby dj18_19) _ ?_
    refine st105 _ ?_
    refine XS.iinc X105.here hx rfl (hb hby dj18_23) rfl (l' := #[.val (.ref v), .val (.int 1), .val (.int (Int32.ofNat cs.length)), .val (.ref t_101), .val (.int 0)]) rfl ?_
    refine XS.iinc X105.here hx rfl (hb hby dj18_26) rfl (l' := #[.val (.ref v), .val (.int 1), .val (.int (Int32.ofNat cs.length)), .val (.ref t_101), .val (.int 1)]) rfl ?_
    refine XS.goto X105.here hx rfl (pc0 := 29) (pc' := 8) rfl (hb hby dj18_29) (by decide) (by decide) ?_
    refine XS.iload X105.here hx rfl (hb hby dj18_8) rfl ?_
    refine XS.iloadN X105.here hx rfl (hb hby dj18_10) rfl ?_
    exact kk)
  by_cases hc106 : (1 : Int32) < (Int32.ofNat cs.length)
  · have hk_108 : 1 < cs.length := ((own_lt8 (a := 1) (b := cs.length) (by omega) (by omega)).mp hc106)
    have ne_v_t_101 : v ≠ t_101 := Nat.ne_of_lt (Nat.lt_of_lt_of_le P0_.lt (Nat.le_trans (Nat.le_refl _) fr_t_101))
    have f109 : Arv Z T105.heap v kv .char (Int32.ofNat cs.length) (cs.map Value.int) (.int 0) := (f102.keep Kq105 (ninS ne_v_t_101 nin0))
    obtain ⟨cl110, Ar110, -, Sz110, Nn110, Hh110, -⟩ := id f109
    have hin110 : ¬ ((1 : Int32) < 0 ∨ cl110.slots.size ≤ ((1 : Int32)).toNatClampNeg) := inb_of Sz110 (own_w0 (n := 1) (m := cs.length) (by omega) (by omega))
    have hat110 : cl110.slots[((1 : Int32)).toNatClampNeg]? = some (.int (cs.getD 1 0)) := Hh110.at hin110 (own_cget (i := 1) (by omega))
    have O111 : Old Z n0 T105.heap := (O104.keep Kq105 (allS g_t_101 all0))
    obtain ⟨v112, _, ⟨T112, L112, k112, n112⟩, -, X112, ⟨Lc112, hQ112, l112, y112, z112⟩, st112⟩ := Jvm.LawKit.callS X105 hx (y := mn1) hown (mvT hZ (wd160 hw)) (mvT hZ (wd161 hw)) (mvT hZ (wd83 hw)) (mvT hZ (wd162 hw)) (by decide) (backOf (W := 0) (rm_pch la Z a0 hw [] t_101 (1 : Int32) (cs.getD 1 0) kt_101 ((((([] ++ List.replicate (2 * cs.length) (Value.int 0)) : List Value).set (2 * 0) (.int (StrChars.lo8 (cs.getD 0 0)))).set (2 * 0 + 1) (.int (StrChars.hi8 (cs.getD 0 0)))) : List Value) 1 (2 * cs.length) T105.heap n0 O111 r105_0 D0_ D1_ D2_ g_t_101 (rfl : (1 : Int32) = Int32.ofNat 1) (by omega : 2 * 1 + 1 < (2 * cs.length)) (by simp only [List.length_set, List.nil_append, List.length_replicate] : ((((([] ++ List.replicate (2 * cs.length) (Value.int 0)) : List Value).set (2 * 0) (.int (StrChars.lo8 (cs.getD 0 0)))).set (2 * 0 + 1) (.int (StrChars.hi8 (cs.getD 0 0)))) : List Value).length = (2 * cs.length)) (by omega : (2 * cs.length) ≤ 8000)) hZ (wd162 hw) (wd83 hw) (by decide) (by decide)) (g := (mkF mi 20 #[.val (.ref v), .val (.int 1), .val (.int (Int32.ofNat cs.length)), .val (.ref t_101), .val (.int 1)] [(.int (cs.getD 1 0)), (.int 1), (.ref t_101)])) rfl (by rw [hml]; rfl) (argsL := [(.ref t_101), (.int 1), (.int (cs.getD 1 0))]) (rest := []) (lenOf pd_7 rfl) rfl (Nat.le_of_ble_eq_true rfl) (hb hby dj18_20) (fun _ _ => ⟨rfl, rfl, (by decide : 1 + 0 ≤ _), (by decide : 8 + 0 ≤ _)⟩)
    dsimp only [Pt.U, Pt.locs, Pt.cells, Pt.slots] at X112 l112 y112 z112 st112 hQ112
    subst l112 y112 z112
    obtain ⟨rfl, Nq112, Kq112, r112_0⟩ := hQ112
    have N112 := Fr.app N105 Nq112
    have pre114 : ∀ tt, SP pg ev below (T112.setTop (mkF mi 11 #[.val (.ref v), .val (.int 2), .val (.int (Int32.ofNat cs.length)), .val (.ref t_101), .val (.int 2)] [(.int (Int32.ofNat cs.length)), (.int 2)])) tt → SP pg ev below (s₁.setTop (entryFrame mi #[(.ref v), (.int 0), (.int (Int32.ofNat cs.length))] 5)) tt := fun tt kk => pre107 _ (by
      show SP pg ev below (T105.setTop (mkF mi 11 #[.val (.ref v), .val (.int 1), .val (.int (Int32.ofNat cs.length)), .val (.ref t_101), .val (.int 1)] [(.int (Int32.ofNat cs.length)), (.int 1)])) _
      refine XS.icmpNo X105.here hx rfl (hb hby dj18_11) rfl (tlt hc106).2.1 ?_
      refine XS.aloadN X105.here hx rfl (hb hby dj18_14) rfl rfl ?_
      refine XS.iload X105.here hx rfl (hb hby dj18_15) rfl ?_
      refine XS.aloadN X105.here hx rfl (hb hby dj18_17) rfl rfl ?_
      refine XS.iloadN X105.here hx rfl (hb hby dj18_18) rfl ?_
      refine X105.caload hx (j := (1 : Int32)) (v := (.int (cs.getD 1 0))) Ar110.1 (State.isArrayOf_alike hZ.alike Ar110.2.1) Ar110.2.2 hin110 hat110 (g := (mkF mi 19 #[.val (.ref v), .val (.int 1), .val (.int (Int32.ofNat cs.length)), .val (.ref t_101), .val (.int 1)] [(.int 1), (.ref v), (.int 1), (.ref t_101)])) rfl rfl (hb hby dj18_19) _ ?_
      refine st112 _ ?_
      refine XS.iinc X112.here hx rfl (hb hby dj18_23) rfl (l' := #[.val (.ref v), .val (.int 2), .val (.int (Int32.ofNat cs.length)), .val (.ref t_101), .val (.int 1)]) rfl ?_
      refine XS.iinc X112.here hx rfl (hb hby dj18_26) rfl (l' := #[.val (.ref v), .val (.int 2), .val (.int (Int32.ofNat cs.length)), .val (.ref t_101), .val (.int 2)]) rfl ?_
      refine XS.goto X112.here hx rfl (pc0 := 29) (pc' := 8) rfl (hb hby dj18_29) (by decide) (by decide) ?_
      refine XS.iload X112.here hx rfl (hb hby dj18_8) rfl ?_
      refine XS.iloadN X112.here hx rfl (hb hby dj18_10) rfl ?_
      exact kk)
    by_cases hc113 : (2 : Int32) < (Int32.ofNat cs.length)
    · have hk_115 : 2 < cs.length := ((own_lt8 (a := 2) (b := cs.length) (by omega) (by omega)).mp hc113)
      have f116 : Arv Z T112.heap v kv .char (Int32.ofNat cs.length) (cs.map Value.int) (.int 0) := (f109.keep Kq112 (ninS ne_v_t_101 nin0))
      obtain ⟨cl117, Ar117, -, Sz117, Nn117, Hh117, -⟩ := id f116
      have hin117 : ¬ ((2 : Int32) < 0 ∨ cl117.slots.size ≤ ((2 : Int32)).toNatClampNeg) := inb_of Sz117 (own_w0 (n := 2) (m := cs.length) (by omega) (by omega))
      have hat117 : cl117.slots[((2 : Int32)).toNatClampNeg]? = some (.int (cs.getD 2 0)) := Hh117.at hin117 (own_cget (i := 2) (by omega))
      have O118 : Old Z n0 T112.heap := (O111.keep Kq112 (allS g_t_101 all0))
      obtain ⟨v119, _, ⟨T119, L119, k119, n119⟩, -, X119, ⟨Lc119, hQ119, l119, y119, z119⟩, st119⟩ := Jvm.LawKit.callS X112 hx (y := mn1) hown (mvT hZ (wd160 hw)) (mvT hZ (wd161 hw)) (mvT hZ (wd83 hw)) (mvT hZ (wd162 hw)) (by decide) (backOf (W := 0) (rm_pch la Z a0 hw [] t_101 (2 : Int32) (cs.getD 2 0) kt_101 (((((((([] ++ List.replicate (2 * cs.length) (Value.int 0)) : List Value).set (2 * 0) (.int (StrChars.lo8 (cs.getD 0 0)))).set (2 * 0 + 1) (.int (StrChars.hi8 (cs.getD 0 0)))) : List Value).set (2 * 1) (.int (StrChars.lo8 (cs.getD 1 0)))).set (2 * 1 + 1) (.int (StrChars.hi8 (cs.getD 1 0)))) : List Value) 2 (2 * cs.length) T112.heap n0 O118 r112_0 D0_ D1_ D2_ g_t_101 (rfl : (2 : Int32) = Int32.ofNat 2) (by omega : 2 * 2 + 1 < (2 * cs.length)) (by simp only [List.length_set, List.nil_append, List.length_replicate] : (((((((([] ++ List.replicate (2 * cs.length) (Value.int 0)) : List Value).set (2 * 0) (.int (StrChars.lo8 (cs.getD 0 0)))).set (2 * 0 + 1) (.int (StrChars.hi8 (cs.getD 0 0)))) : List Value).set (2 * 1) (.int (StrChars.lo8 (cs.getD 1 0)))).set (2 * 1 + 1) (.int (StrChars.hi8 (cs.getD 1 0)))) : List Value).length = (2 * cs.length)) (by omega : (2 * cs.length) ≤ 8000)) hZ (wd162 hw) (wd83 hw) (by decide) (by decide)) (g := (mkF mi 20 #[.val (.ref v), .val (.int 2), .val (.int (Int32.ofNat cs.length)), .val (.ref t_101), .val (.int 2)] [(.int (cs.getD 2 0)), (.int 2), (.ref t_101)])) rfl (by rw [hml]; rfl) (argsL := [(.ref t_101), (.int 2), (.int (cs.getD 2 0))]) (rest := []) (lenOf pd_7 rfl) rfl (Nat.le_of_ble_eq_true rfl) (hb hby dj18_20) (fun _ _ => ⟨rfl, rfl, (by decide : 1 + 0 ≤ _), (by decide : 8 + 0 ≤ _)⟩)
      dsimp only [Pt.U, Pt.locs, Pt.cells, Pt.slots] at X119 l119 y119 z119 st119 hQ119
      subst l119 y119 z119
      obtain ⟨rfl, Nq119, Kq119, r119_0⟩ := hQ119
      have N119 := Fr.app N112 Nq119
      have pre121 : ∀ tt, SP pg ev below (T119.setTop (mkF mi 11 #[.val (.ref v), .val (.int 3), .val (.int (Int32.ofNat cs.length)), .val (.ref t_101), .val (.int 3)] [(.int (Int32.ofNat cs.length)), (.int 3)])) tt → SP pg ev below (s₁.setTop (entryFrame mi #[(.ref v), (.int 0), (.int (Int32.ofNat cs.length))] 5)) tt := fun tt kk => pre114 _ (by
        show SP pg ev below (T112.setTop (mkF mi 11 #[.val (.ref v), .val (.int 2), .val (.int (Int32.ofNat cs.length)), .val (.ref t_101), .val (.int 2)] [(.int (Int32.ofNat cs.length)), (.int 2)])) _
        refine XS.icmpNo X112.here hx rfl (hb hby dj18_11) rfl (tlt hc113).2.1 ?_
        refine XS.aloadN X112.here hx rfl (hb hby dj18_14) rfl rfl ?_
        refine XS.iload X112.here hx rfl (hb hby dj18_15) rfl ?_
        refine XS.aloadN X112.here hx rfl (hb hby dj18_17) rfl rfl ?_
        refine XS.iloadN X112.here hx rfl (hb hby dj18_18) rfl ?_
        refine X112.caload hx (j := (2 : Int32)) (v := (.int (cs.getD 2 0))) Ar117.1 (State.isArrayOf_alike hZ.alike Ar117.2.1) Ar117.2.2 hin117 hat117 (g := (mkF mi 19 #[.val (.ref v), .val (.int 2), .val (.int (Int32.ofNat cs.length)), .val (.ref t_101), .val (.int 2)] [(.int 2), (.ref v), (.int 2), (.ref t_101)])) rfl rfl (hb hby dj18_19) _ ?_
        refine st119 _ ?_
        refine XS.iinc X119.here hx rfl (hb hby dj18_23) rfl (l' := #[.val (.ref v), .val (.int 3), .val (.int (Int32.ofNat cs.length)), .val (.ref t_101), .val (.int 2)]) rfl ?_
        refine XS.iinc X119.here hx rfl (hb hby dj18_26) rfl (l' := #[.val (.ref v), .val (.int 3), .val (.int (Int32.ofNat cs.length)), .val (.ref t_101), .val (.int 3)]) rfl ?_
        refine XS.goto X119.here hx rfl (pc0 := 29) (pc' := 8) rfl (hb hby dj18_29) (by decide) (by decide) ?_
        refine XS.iload X119.here hx rfl (hb hby dj18_8) rfl ?_
        refine XS.iloadN X119.here hx rfl (hb hby dj18_10) rfl ?_
        exact kk)
      by_cases hc120 : (3 : Int32) < (Int32.ofNat cs.length)
      · have hk_122 : 3 < cs.length := ((own_lt8 (a := 3) (b := cs.length) (by omega) (by omega)).mp hc120)
        have f123 : Arv Z T119.heap v kv .char (Int32.ofNat cs.length) (cs.map Value.int) (.int 0) := (f116.keep Kq119 (ninS ne_v_t_101 nin0))
        obtain ⟨cl124, Ar124, -, Sz124, Nn124, Hh124, -⟩ := id f123
        have hin124 : ¬ ((3 : Int32) < 0 ∨ cl124.slots.size ≤ ((3 : Int32)).toNatClampNeg) := inb_of Sz124 (own_w0 (n := 3) (m := cs.length) (by omega) (by omega))
        have hat124 : cl124.slots[((3 : Int32)).toNatClampNeg]? = some (.int (cs.getD 3 0)) := Hh124.at hin124 (own_cget (i := 3) (by omega))
        have O125 : Old Z n0 T119.heap := (O118.keep Kq119 (allS g_t_101 all0))
        obtain ⟨v126, _, ⟨T126, L126, k126, n126⟩, -, X126, ⟨Lc126, hQ126, l126, y126, z126⟩, st126⟩ := Jvm.LawKit.callS X119 hx (y := mn1) hown (mvT hZ (wd160 hw)) (mvT hZ (wd161 hw)) (mvT hZ (wd83 hw)) (mvT hZ (wd162 hw)) (by decide) (backOf (W := 0) (rm_pch la Z a0 hw [] t_101 (3 : Int32) (cs.getD 3 0) kt_101 ((((((((((([] ++ List.replicate (2 * cs.length) (Value.int 0)) : List Value).set (2 * 0) (.int (StrChars.lo8 (cs.getD 0 0)))).set (2 * 0 + 1) (.int (StrChars.hi8 (cs.getD 0 0)))) : List Value).set (2 * 1) (.int (StrChars.lo8 (cs.getD 1 0)))).set (2 * 1 + 1) (.int (StrChars.hi8 (cs.getD 1 0)))) : List Value).set (2 * 2) (.int (StrChars.lo8 (cs.getD 2 0)))).set (2 * 2 + 1) (.int (StrChars.hi8 (cs.getD 2 0)))) : List Value) 3 (2 * cs.length) T119.heap n0 O125 r119_0 D0_ D1_ D2_ g_t_101 (rfl : (3 : Int32) = Int32.ofNat 3) (by omega : 2 * 3 + 1 < (2 * cs.length)) (by simp only [List.length_set, List.nil_append, List.length_replicate] : ((((((((((([] ++ List.replicate (2 * cs.length) (Value.int 0)) : List Value).set (2 * 0) (.int (StrChars.lo8 (cs.getD 0 0)))).set (2 * 0 + 1) (.int (StrChars.hi8 (cs.getD 0 0)))) : List Value).set (2 * 1) (.int (StrChars.lo8 (cs.getD 1 0)))).set (2 * 1 + 1) (.int (StrChars.hi8 (cs.getD 1 0)))) : List Value).set (2 * 2) (.int (StrChars.lo8 (cs.getD 2 0)))).set (2 * 2 + 1) (.int (StrChars.hi8 (cs.getD 2 0)))) : List Value).length = (2 * cs.length)) (by omega : (2 * cs.length) ≤ 8000)) hZ (wd162 hw) (wd83 hw) (by decide) (by decide)) (g := (mkF mi 20 #[.val (.ref v), .val (.int 3), .val (.int (Int32.ofNat cs.length)), .val (.ref t_101), .val (.int 3)] [(.int (cs.getD 3 0)), (.int 3), (.ref t_101)])) rfl (by rw [hml]; rfl) (argsL := [(.ref t_101), (.int 3), (.int (cs.getD 3 0))]) (rest := []) (lenOf pd_7 rfl) rfl (Nat.le_of_ble_eq_true rfl) (hb hby dj18_20) (fun _ _ => ⟨rfl, rfl, (by decide : 1 + 0 ≤ _), (by decide : 8 + 0 ≤ _)⟩)
        dsimp only [Pt.U, Pt.locs, Pt.cells, Pt.slots] at X126 l126 y126 z126 st126 hQ126
        subst l126 y126 z126
        obtain ⟨rfl, Nq126, Kq126, r126_0⟩ := hQ126
        have N126 := Fr.app N119 Nq126
        have f127 : Arv Z T126.heap t_101 kt_101 .byte (Int32.ofNat (2 * cs.length)) (StrChars.Road.wideBytes cs) (.int 0) := by have q := r126_0; obtain ⟨c0, c1, c2, c3, rfl⟩ := own_e4 (by omega : cs.length = 4); exact q
        obtain ⟨fs, hr, hrun, hended, hW, hsame⟩ := X126.leave (v := some (.ref t_101)) (fun hq => by rw [Bd.returns] at hq; cases hq)
        refine ⟨_, _, pre121 _ ?_, hrun, hended, _, _, rfl, ?_, ⟨_, rfl⟩, hW, hsame.mono (by decide) (by decide)⟩
        · show SP pg ev below (T119.setTop (mkF mi 11 #[.val (.ref v), .val (.int 3), .val (.int (Int32.ofNat cs.length)), .val (.ref t_101), .val (.int 3)] [(.int (Int32.ofNat cs.length)), (.int 3)])) _
          refine XS.icmpNo X119.here hx rfl (hb hby dj18_11) rfl (tlt hc120).2.1 ?_
          refine XS.aloadN X119.here hx rfl (hb hby dj18_14) rfl rfl ?_
          refine XS.iload X119.here hx rfl (hb hby dj18_15) rfl ?_
          refine XS.aloadN X119.here hx rfl (hb hby dj18_17) rfl rfl ?_
          refine XS.iloadN X119.here hx rfl (hb hby dj18_18) rfl ?_
          refine X119.caload hx (j := (3 : Int32)) (v := (.int (cs.getD 3 0))) Ar124.1 (State.isArrayOf_alike hZ.alike Ar124.2.1) Ar124.2.2 hin124 hat124 (g := (mkF mi 19 #[.val (.ref v), .val (.int 3), .val (.int (Int32.ofNat cs.length)), .val (.ref t_101), .val (.int 3)] [(.int 3), (.ref v), (.int 3), (.ref t_101)])) rfl rfl (hb hby dj18_19) _ ?_
          refine st126 _ ?_
          refine XS.iinc X126.here hx rfl (hb hby dj18_23) rfl (l' := #[.val (.ref v), .val (.int 4), .val (.int (Int32.ofNat cs.length)), .val (.ref t_101), .val (.int 3)]) rfl ?_
          refine XS.iinc X126.here hx rfl (hb hby dj18_26) rfl (l' := #[.val (.ref v), .val (.int 4), .val (.int (Int32.ofNat cs.length)), .val (.ref t_101), .val (.int 4)]) rfl ?_
          refine XS.goto X126.here hx rfl (pc0 := 29) (pc' := 8) rfl (hb hby dj18_29) (by decide) (by decide) ?_
          refine XS.iload X126.here hx rfl (hb hby dj18_8) rfl ?_
          refine XS.iloadN X126.here hx rfl (hb hby dj18_10) rfl ?_
          refine XS.icmpYes X126.here hx rfl (pc0 := 11) (pc' := 32) rfl (hb hby dj18_11) rfl (flt (fun q => absurd ((own_lt8 (a := 4) (b := cs.length) (by omega) (by omega)).mp q) (by omega))).2.1 (by decide) (by decide) ?_
          refine XS.aloadN X126.here hx rfl (hb hby dj18_32) rfl rfl ?_
          show SP pg ev below (T126.setTop (mkF mi 33 #[.val (.ref v), .val (.int 4), .val (.int (Int32.ofNat cs.length)), .val (.ref t_101), .val (.int 4)] [(.ref t_101)])) _
          jvm_step X126.here [X126.here.top, hx, (hb hby dj18_33), X126.method', Bd.returns, Value.isRef, FieldType.isReference]
          first | (intro acts; rw [hr _ acts rfl rfl rfl]) | rw [hr _ _ rfl rfl rfl]
          exact Steps.refl _
        · show Q_tbX Z v kv cs hE n0 _ T126.heap _
          exact ⟨t_101, kt_101, rfl, N126, ((((((Keep.refl hE []).trans Kq101 all0).trans Kq105 (allS (Or.inr fr_t_101) all0)).trans Kq112 (allS (Or.inr fr_t_101) all0)).trans Kq119 (allS (Or.inr fr_t_101) all0)).trans Kq126 (allS (Or.inr fr_t_101) all0)), fr_t_101, f127⟩
      · have f128 : Arv Z T119.heap t_101 kt_101 .byte (Int32.ofNat (2 * cs.length)) (StrChars.Road.wideBytes cs) (.int 0) := by have q := r119_0; obtain ⟨c0, c1, c2, rfl⟩ := own_e3 (by have := (show ¬ (3 < cs.length) from fun z => hc120 ((own_lt8 (a := 3) (b := cs.length) (by omega) (by omega)).mpr z)); omega : cs.length = 3); exact q
        obtain ⟨fs, hr, hrun, hended, hW, hsame⟩ := X119.leave (v := some (.ref t_101)) (fun hq => by rw [Bd.returns] at hq; cases hq)
        refine ⟨_, _, pre121 _ ?_, hrun, hended, _, _, rfl, ?_, ⟨_, rfl⟩, hW, hsame.mono (by decide) (by decide)⟩
        · show SP pg ev below (T119.setTop (mkF mi 11 #[.val (.ref v), .val (.int 3), .val (.int (Int32.ofNat cs.length)), .val (.ref t_101), .val (.int 3)] [(.int (Int32.ofNat cs.length)), (.int 3)])) _
          refine XS.icmpYes X119.here hx rfl (pc0 := 11) (pc' := 32) rfl (hb hby dj18_11) rfl (flt hc120).2.1 (by decide) (by decide) ?_
          refine XS.aloadN X119.here hx rfl (hb hby dj18_32) rfl rfl ?_
          show SP pg ev below (T119.setTop (mkF mi 33 #[.val (.ref v), .val (.int 3), .val (.int (Int32.ofNat cs.length)), .val (.ref t_101), .val (.int 3)] [(.ref t_101)])) _
          jvm_step X119.here [X119.here.top, hx, (hb hby dj18_33), X119.method', Bd.returns, Value.isRef, FieldType.isReference]
          first | (intro acts; rw [hr _ acts rfl rfl rfl]) | rw [hr _ _ rfl rfl rfl]
          exact Steps.refl _
        · show Q_tbX Z v kv cs hE n0 _ T119.heap _
          exact ⟨t_101, kt_101, rfl, N119, (((((Keep.refl hE []).trans Kq101 all0).trans Kq105 (allS (Or.inr fr_t_101) all0)).trans Kq112 (allS (Or.inr fr_t_101) all0)).trans Kq119 (allS (Or.inr fr_t_101) all0)), fr_t_101, f128⟩
    · have f129 : Arv Z T112.heap t_101 kt_101 .byte (Int32.ofNat (2 * cs.length)) (StrChars.Road.wideBytes cs) (.int 0) := by have q := r112_0; obtain ⟨c0, c1, rfl⟩ := own_e2 (by have := (show ¬ (2 < cs.length) from fun z => hc113 ((own_lt8 (a := 2) (b := cs.length) (by omega) (by omega)).mpr z)); omega : cs.length = 2); exact q
      obtain ⟨fs, hr, hrun, hended, hW, hsame⟩ := X112.leave (v := some (.ref t_101)) (fun hq => by rw [Bd.returns] at hq; cases hq)
      refine ⟨_, _, pre114 _ ?_, hrun, hended, _, _, rfl, ?_, ⟨_, rfl⟩, hW, hsame.mono (by decide) (by decide)⟩
      · show SP pg ev below (T112.setTop (mkF mi 11 #[.val (.ref v), .val (.int 2), .val (.int (Int32.ofNat cs.length)), .val (.ref t_101), .val (.int 2)] [(.int (Int32.ofNat cs.length)), (.int 2)])) _
        refine XS.icmpYes X112.here hx rfl (pc0 := 11) (pc' := 32) rfl (hb hby dj18_11) rfl (flt hc113).2.1 (by decide) (by decide) ?_
        refine XS.aloadN X112.here hx rfl (hb hby dj18_32) rfl rfl ?_
        show SP pg ev below (T112.setTop (mkF mi 33 #[.val (.ref v), .val (.int 2), .val (.int (Int32.ofNat cs.length)), .val (.ref t_101), .val (.int 2)] [(.ref t_101)])) _
        jvm_step X112.here [X112.here.top, hx, (hb hby dj18_33), X112.method', Bd.returns, Value.isRef, FieldType.isReference]
        first | (intro acts; rw [hr _ acts rfl rfl rfl]) | rw [hr _ _ rfl rfl rfl]
        exact Steps.refl _
      · show Q_tbX Z v kv cs hE n0 _ T112.heap _
        exact ⟨t_101, kt_101, rfl, N112, ((((Keep.refl hE []).trans Kq101 all0).trans Kq105 (allS (Or.inr fr_t_101) all0)).trans Kq112 (allS (Or.inr fr_t_101) all0)), fr_t_101, f129⟩
  · have f130 : Arv Z T105.heap t_101 kt_101 .byte (Int32.ofNat (2 * cs.length)) (StrChars.Road.wideBytes cs) (.int 0) := by have q := r105_0; obtain ⟨c0, rfl⟩ := own_e1 (by have := (show ¬ (1 < cs.length) from fun z => hc106 ((own_lt8 (a := 1) (b := cs.length) (by omega) (by omega)).mpr z)); omega : cs.length = 1); exact q
    obtain ⟨fs, hr, hrun, hended, hW, hsame⟩ := X105.leave (v := some (.ref t_101)) (fun hq => by rw [Bd.returns] at hq; cases hq)
    refine ⟨_, _, pre107 _ ?_, hrun, hended, _, _, rfl, ?_, ⟨_, rfl⟩, hW, hsame.mono (by decide) (by decide)⟩
    · show SP pg ev below (T105.setTop (mkF mi 11 #[.val (.ref v), .val (.int 1), .val (.int (Int32.ofNat cs.length)), .val (.ref t_101), .val (.int 1)] [(.int (Int32.ofNat cs.length)), (.int 1)])) _
      refine XS.icmpYes X105.here hx rfl (pc0 := 11) (pc' := 32) rfl (hb hby dj18_11) rfl (flt hc106).2.1 (by decide) (by decide) ?_
      refine XS.aloadN X105.here hx rfl (hb hby dj18_32) rfl rfl ?_
      show SP pg ev below (T105.setTop (mkF mi 33 #[.val (.ref v), .val (.int 1), .val (.int (Int32.ofNat cs.length)), .val (.ref t_101), .val (.int 1)] [(.ref t_101)])) _
      jvm_step X105.here [X105.here.top, hx, (hb hby dj18_33), X105.method', Bd.returns, Value.isRef, FieldType.isReference]
      first | (intro acts; rw [hr _ acts rfl rfl rfl]) | rw [hr _ _ rfl rfl rfl]
      exact Steps.refl _
    · show Q_tbX Z v kv cs hE n0 _ T105.heap _
      exact ⟨t_101, kt_101, rfl, N105, (((Keep.refl hE []).trans Kq101 all0).trans Kq105 (allS (Or.inr fr_t_101) all0)), fr_t_101, f130⟩
theorem dj19_0 : decode jc19 0 = .ok (.iconst 0, 1) := by decide +kernel
theorem dj19_1 : decode jc19 1 = .ok (.istore 5, 2) := by decide +kernel
theorem dj19_3 : decode jc19 3 = .ok (.iload 5, 2) := by decide +kernel
theorem dj19_5 : decode jc19 5 = .ok (.iload 4, 2) := by decide +kernel
theorem dj19_7 : decode jc19 7 = .ok (.if_icmp .ge 37, 3) := by decide +kernel
theorem dj19_10 : decode jc19 10 = .ok (.aload_n 0, 1) := by decide +kernel
theorem dj19_11 : decode jc19 11 = .ok (.iload_n 1, 1) := by decide +kernel
theorem dj19_12 : decode jc19 12 = .ok (.caload, 1) := by decide +kernel
theorem dj19_13 : decode jc19 13 = .ok (.istore 6, 2) := by decide +kernel
theorem dj19_15 : decode jc19 15 = .ok (.iload 6, 2) := by decide +kernel
theorem dj19_17 : decode jc19 17 = .ok (.sipush 255, 3) := by decide +kernel
theorem dj19_20 : decode jc19 20 = .ok (.if_icmp .le 6, 3) := by decide +kernel
theorem dj19_23 : decode jc19 23 = .ok (.iload 5, 2) := by decide +kernel
theorem dj19_25 : decode jc19 25 = .ok (.ireturn, 1) := by decide +kernel
theorem dj19_26 : decode jc19 26 = .ok (.aload_n 2, 1) := by decide +kernel
theorem dj19_27 : decode jc19 27 = .ok (.iload_n 3, 1) := by decide +kernel
theorem dj19_28 : decode jc19 28 = .ok (.iload 6, 2) := by decide +kernel
theorem dj19_30 : decode jc19 30 = .ok (.i2b, 1) := by decide +kernel
theorem dj19_31 : decode jc19 31 = .ok (.bastore, 1) := by decide +kernel
theorem dj19_32 : decode jc19 32 = .ok (.iinc 1 1, 3) := by decide +kernel
theorem dj19_35 : decode jc19 35 = .ok (.iinc 3 1, 3) := by decide +kernel
theorem dj19_38 : decode jc19 38 = .ok (.iinc 5 1, 3) := by decide +kernel
theorem dj19_41 : decode jc19 41 = .ok (.goto (-38), 3) := by decide +kernel
theorem dj19_44 : decode jc19 44 = .ok (.iload 4, 2) := by decide +kernel
theorem dj19_46 : decode jc19 46 = .ok (.ireturn, 1) := by decide +kernel
theorem ef_cpX (mi : MethodId) (v : Addr) (t : Addr) (cs : List Int32) : entryFrame mi #[(.ref v), (.int 0), (.ref t), (.int 0), (.int (Int32.ofNat cs.length))] 7 = mkF mi 0 #[.val (.ref v), .val (.int 0), .val (.ref t), .val (.int 0), .val (.int (Int32.ofNat cs.length)), .unset, .unset] [] := rfl
def Q_cpX (Z : State) (v t : Addr) (kv kt : ClassId) (cs : List Int32) (hE : Heap) (n0 : Nat) (vv : Option Value) (hh : Heap) (LL : List Loc) : Prop := ∃ r : Int32, ∃ vs : List Value, (vv = some (.int r)) ∧ (Fr n0 LL) ∧ (Keep hE hh [t]) ∧ (Arv Z hh t kt .byte (Int32.ofNat cs.length) vs (.int 0)) ∧ (CpR cs r vs)
theorem rm_cpX (hw : HW a0 Z) (ws : List Cond) (v t : Addr) (kv kt : ClassId) (cs : List Int32) (hE : Heap) (n0 : Nat) (O : Old Z n0 hE) (P0_ : Arv Z hE v kv .char (Int32.ofNat cs.length) (cs.map Value.int) (.int 0)) (P1_ : Arv Z hE t kt .byte (Int32.ofNat cs.length) ([] ++ List.replicate (cs.length) (Value.int 0)) (.int 0)) (g_t : n0 ≤ t) (ne_v_t : v ≠ t) (h0 : 0 < cs.length) (h4 : cs.length ≤ 4) :
    MF la Z hE mn18 jc19 7 (some .int) ws (rr 0 0 0 0) #[(.ref v), (.int 0), (.ref t), (.int 0), (.int (Int32.ofNat cs.length))] (Q_cpX Z v t kv kt cs hE n0) := by
  refine MetFree.of_bodySF (plainFor_of_name pn_java_lang_StringUTF16) hisR ?_
  intro pg ev sb mi gs below me cd s₁ Bd hml0 hPt hKt
  obtain ⟨rfl, hZ, hh⟩ := hPt
  have hx := Bd.exec
  have hby := Bd.bytes
  have hml : cd.maxLocals = 7 := hml0
  have hown : sb.vm.findClass c1_ = some mi.cls := findClass_of_methodNamed Bd.named
  have X0 : Stand pg la ev (rr 0 0 0 0) sb mi #[(.ref v), (.int 0), (.ref t), (.int 0), (.int (Int32.ofNat cs.length))] below me cd s₁ [] 0 0 := Stand.of_body Bd
  have eE : s₁.heap = hE := by rw [← hh, Bd.state]; rfl
  have N0 := Fr.nil n0
  have pre0 : ∀ tt, SP pg ev below (s₁.setTop (mkF mi 0 #[.val (.ref v), .val (.int 0), .val (.ref t), .val (.int 0), .val (.int (Int32.ofNat cs.length)), .unset, .unset] [])) tt → SP pg ev below (s₁.setTop (entryFrame mi #[(.ref v), (.int 0), (.ref t), (.int 0), (.int (Int32.ofNat cs.length))] 7)) tt := fun tt kk => castTop (ef_cpX mi v t cs) kk
  obtain ⟨cl101, Ar101, -, Sz101, Nn101, Hh101, -⟩ := id P0_
  have hin101 : ¬ ((0 : Int32) < 0 ∨ cl101.slots.size ≤ ((0 : Int32)).toNatClampNeg) := inb_of Sz101 (own_w0 (n := 0) (m := cs.length) (by omega) (by omega))
  have hat101 : cl101.slots[((0 : Int32)).toNatClampNeg]? = some (.int (cs.getD 0 0)) := Hh101.at hin101 (own_cget (i := 0) (by omega))
  have pre103 : ∀ tt, SP pg ev below (s₁.setTop (mkF mi 20 #[.val (.ref v), .val (.int 0), .val (.ref t), .val (.int 0), .val (.int (Int32.ofNat cs.length)), .val (.int 0), .val (.int (cs.getD 0 0))] [(.int 255), (.int (cs.getD 0 0))])) tt → SP pg ev below (s₁.setTop (entryFrame mi #[(.ref v), (.int 0), (.ref t), (.int 0), (.int (Int32.ofNat cs.length))] 7)) tt := fun tt kk => pre0 _ (by
    show SP pg ev below (s₁.setTop (mkF mi 0 #[.val (.ref v), .val (.int 0), .val (.ref t), .val (.int 0), .val (.int (Int32.ofNat cs.length)), .unset, .unset] [])) _
    refine XS.iconst X0.here hx rfl (hb hby dj19_0) ?_
    refine XS.istore X0.here hx rfl (hb hby dj19_1) rfl (l' := #[.val (.ref v), .val (.int 0), .val (.ref t), .val (.int 0), .val (.int (Int32.ofNat cs.length)), .val (.int 0), .unset]) rfl ?_
    refine XS.iload X0.here hx rfl (hb hby dj19_3) rfl ?_
    refine XS.iload X0.here hx rfl (hb hby dj19_5) rfl ?_
    refine XS.icmpNo X0.here hx rfl (hb hby dj19_7) rfl (tlt ((own_lt8 (a := 0) (b := cs.length) (by omega) (by omega)).mpr (by omega))).2.1 ?_
    refine XS.aloadN X0.here hx rfl (hb hby dj19_10) rfl rfl ?_
    refine XS.iloadN X0.here hx rfl (hb hby dj19_11) rfl ?_
    refine X0.caload hx (j := (0 : Int32)) (v := (.int (cs.getD 0 0))) (by rw [eE]; exact Ar101.1) (State.isArrayOf_alike hZ.alike Ar101.2.1) Ar101.2.2 hin101 hat101 (g := (mkF mi 12 #[.val (.ref v), .val (.int 0), .val (.ref t), .val (.int 0), .val (.int (Int32.ofNat cs.length)), .val (.int 0), .unset] [(.int 0), (.ref v)])) rfl rfl (hb hby dj19_12) _ ?_
    refine XS.istore X0.here hx rfl (hb hby dj19_13) rfl (l' := #[.val (.ref v), .val (.int 0), .val (.ref t), .val (.int 0), .val (.int (Int32.ofNat cs.length)), .val (.int 0), .val (.int (cs.getD 0 0))]) rfl ?_
    refine XS.iload X0.here hx rfl (hb hby dj19_15) rfl ?_
    refine XS.sipush X0.here hx rfl (hb hby dj19_17) ?_
    exact kk)
  by_cases hc102 : (255 : Int32) < (cs.getD 0 0)
  · obtain ⟨fs, hr, hrun, hended, hW, hsame⟩ := X0.leave (v := some (.int 0)) (fun hq => by rw [Bd.returns] at hq; cases hq)
    refine ⟨_, _, pre103 _ ?_, hrun, hended, _, _, rfl, ?_, ⟨_, rfl⟩, hW, hsame.mono (by decide) (by decide)⟩
    · show SP pg ev below (s₁.setTop (mkF mi 20 #[.val (.ref v), .val (.int 0), .val (.ref t), .val (.int 0), .val (.int (Int32.ofNat cs.length)), .val (.int 0), .val (.int (cs.getD 0 0))] [(.int 255), (.int (cs.getD 0 0))])) _
      refine XS.icmpNo X0.here hx rfl (hb hby dj19_20) rfl (tlt hc102).2.2.2 ?_
      refine XS.iload X0.here hx rfl (hb hby dj19_23) rfl ?_
      show SP pg ev below (s₁.setTop (mkF mi 25 #[.val (.ref v), .val (.int 0), .val (.ref t), .val (.int 0), .val (.int (Int32.ofNat cs.length)), .val (.int 0), .val (.int (cs.getD 0 0))] [(.int 0)])) _
      exact retI X0 hx Bd.returns (hb hby dj19_25) hr
    · show Q_cpX Z v t kv kt cs hE n0 _ s₁.heap _
      rw [eE]
      exact ⟨(0 : Int32), ([] ++ List.replicate (cs.length) (Value.int 0)), rfl, N0, (Keep.refl hE [t]), P1_, (Or.inr ⟨0, by omega, rfl, hc102⟩)⟩
  · obtain ⟨T104, h104, L104, X104, e104, N104, Kq104, f104, st104⟩ := own_sb X0 hx hZ eE P1_ 0 (c := ((cs.getD 0 0).toInt8.toInt32)) (w := (StrChars.lo8 (cs.getD 0 0))) (j := (0 : Int32)) (own_nb _) rfl (own_w0 (n := 0) (m := cs.length) (by omega) (by omega)) (by simp only [List.length_set, List.nil_append, List.length_replicate]; omega) N0 g_t (g := (mkF mi 31 #[.val (.ref v), .val (.int 0), .val (.ref t), .val (.int 0), .val (.int (Int32.ofNat cs.length)), .val (.int 0), .val (.int (cs.getD 0 0))] [(.int ((cs.getD 0 0).toInt8.toInt32)), (.int 0), (.ref t)])) rfl rfl (hb hby dj19_31)
    have pre106 : ∀ tt, SP pg ev below (T104.setTop (mkF mi 7 #[.val (.ref v), .val (.int 1), .val (.ref t), .val (.int 1), .val (.int (Int32.ofNat cs.length)), .val (.int 1), .val (.int (cs.getD 0 0))] [(.int (Int32.ofNat cs.length)), (.int 1)])) tt → SP pg ev below (s₁.setTop (entryFrame mi #[(.ref v), (.int 0), (.ref t), (.int 0), (.int (Int32.ofNat cs.length))] 7)) tt := fun tt kk => pre103 _ (by
      show SP pg ev below (s₁.setTop (mkF mi 20 #[.val (.ref v), .val (.int 0), .val (.ref t), .val (.int 0), .val (.int (Int32.ofNat cs.length)), .val (.int 0), .val (.int (cs.getD 0 0))] [(.int 255), (.int (cs.getD 0 0))])) _
      refine XS.icmpYes X0.here hx rfl (pc0 := 20) (pc' := 26) rfl (hb hby dj19_20) rfl (flt hc102).2.2.2 (by decide) (by decide) ?_
      refine XS.aloadN X0.here hx rfl (hb hby dj19_26) rfl rfl ?_
      refine XS.iloadN X0.here hx rfl (hb hby dj19_27) rfl ?_
      refine XS.iload X0.here hx rfl (hb hby dj19_28) rfl ?_
      refine XS.i2b X0.here hx rfl (hb hby dj19_30) rfl ?_
      refine st104 _ ?_
      refine XS.iinc X104.here hx rfl (hb hby dj19_32) rfl (l' := #[.val (.ref v), .val (.int 1), .val (.ref t), .val (.int 0), .val (.int (Int32.ofNat cs.length)), .val (.int 0), .val (.int (cs.getD 0 0))]) rfl ?_
      refine XS.iinc X104.here hx rfl (hb hby dj19_35) rfl (l' := #[.val (.ref v), .val (.int 1), .val (.ref t), .val (.int 1), .val (.int (Int32.ofNat cs.length)), .val (.int 0), .val (.int (cs.getD 0 0))]) rfl ?_
      refine XS.iinc X104.here hx rfl (hb hby dj19_38) rfl (l' := #[.val (.ref v), .val (.int 1), .val (.ref t), .val (.int 1), .val (.int (Int32.ofNat cs.length)), .val (.int 1), .val (.int (cs.getD 0 0))]) rfl ?_
      refine XS.goto X104.here hx rfl (pc0 := 41) (pc' := 3) rfl (hb hby dj19_41) (by decide) (by decide) ?_
      refine XS.iload X104.here hx rfl (hb hby dj19_3) rfl ?_
      refine XS.iload X104.here hx rfl (hb hby dj19_5) rfl ?_
      exact kk)
    by_cases hc105 : (1 : Int32) < (Int32.ofNat cs.length)
    · have hk_107 : 1 < cs.length := ((own_lt8 (a := 1) (b := cs.length) (by omega) (by omega)).mp hc105)
      have f108 : Arv Z h104 v kv .char (Int32.ofNat cs.length) (cs.map Value.int) (.int 0) := (P0_.keep Kq104 (ninS ne_v_t nin0))
      obtain ⟨cl109, Ar109, -, Sz109, Nn109, Hh109, -⟩ := id f108
      have hin109 : ¬ ((1 : Int32) < 0 ∨ cl109.slots.size ≤ ((1 : Int32)).toNatClampNeg) := inb_of Sz109 (own_w0 (n := 1) (m := cs.length) (by omega) (by omega))
      have hat109 : cl109.slots[((1 : Int32)).toNatClampNeg]? = some (.int (cs.getD 1 0)) := Hh109.at hin109 (own_cget (i := 1) (by omega))
      have pre111 : ∀ tt, SP pg ev below (T104.setTop (mkF mi 20 #[.val (.ref v), .val (.int 1), .val (.ref t), .val (.int 1), .val (.int (Int32.ofNat cs.length)), .val (.int 1), .val (.int (cs.getD 1 0))] [(.int 255), (.int (cs.getD 1 0))])) tt → SP pg ev below (s₁.setTop (entryFrame mi #[(.ref v), (.int 0), (.ref t), (.int 0), (.int (Int32.ofNat cs.length))] 7)) tt := fun tt kk => pre106 _ (by
        show SP pg ev below (T104.setTop (mkF mi 7 #[.val (.ref v), .val (.int 1), .val (.ref t), .val (.int 1), .val (.int (Int32.ofNat cs.length)), .val (.int 1), .val (.int (cs.getD 0 0))] [(.int (Int32.ofNat cs.length)), (.int 1)])) _
        refine XS.icmpNo X104.here hx rfl (hb hby dj19_7) rfl (tlt hc105).2.1 ?_
        refine XS.aloadN X104.here hx rfl (hb hby dj19_10) rfl rfl ?_
        refine XS.iloadN X104.here hx rfl (hb hby dj19_11) rfl ?_
        refine X104.caload hx (j := (1 : Int32)) (v := (.int (cs.getD 1 0))) (by rw [e104]; exact Ar109.1) (State.isArrayOf_alike hZ.alike Ar109.2.1) Ar109.2.2 hin109 hat109 (g := (mkF mi 12 #[.val (.ref v), .val (.int 1), .val (.ref t), .val (.int 1), .val (.int (Int32.ofNat cs.length)), .val (.int 1), .val (.int (cs.getD 0 0))] [(.int 1), (.ref v)])) rfl rfl (hb hby dj19_12) _ ?_
        refine XS.istore X104.here hx rfl (hb hby dj19_13) rfl (l' := #[.val (.ref v), .val (.int 1), .val (.ref t), .val (.int 1), .val (.int (Int32.ofNat cs.length)), .val (.int 1), .val (.int (cs.getD 1 0))]) rfl ?_
        refine XS.iload X104.here hx rfl (hb hby dj19_15) rfl ?_
        refine XS.sipush X104.here hx rfl (hb hby dj19_17) ?_
        exact kk)
      by_cases hc110 : (255 : Int32) < (cs.getD 1 0)
      · obtain ⟨fs, hr, hrun, hended, hW, hsame⟩ := X104.leave (v := some (.int 1)) (fun hq => by rw [Bd.returns] at hq; cases hq)
        refine ⟨_, _, pre111 _ ?_, hrun, hended, _, _, rfl, ?_, ⟨_, rfl⟩, hW, hsame.mono (by decide) (by decide)⟩
        · show SP pg ev below (T104.setTop (mkF mi 20 #[.val (.ref v), .val (.int 1), .val (.ref t), .val (.int 1), .val (.int (Int32.ofNat cs.length)), .val (.int 1), .val (.int (cs.getD 1 0))] [(.int 255), (.int (cs.getD 1 0))])) _
          refine XS.icmpNo X104.here hx rfl (hb hby dj19_20) rfl (tlt hc110).2.2.2 ?_
          refine XS.iload X104.here hx rfl (hb hby dj19_23) rfl ?_
          show SP pg ev below (T104.setTop (mkF mi 25 #[.val (.ref v), .val (.int 1), .val (.ref t), .val (.int 1), .val (.int (Int32.ofNat cs.length)), .val (.int 1), .val (.int (cs.getD 1 0))] [(.int 1)])) _
          exact retI X104 hx Bd.returns (hb hby dj19_25) hr
        · show Q_cpX Z v t kv kt cs hE n0 _ T104.heap _
          rw [e104]
          exact ⟨(1 : Int32), (([] ++ List.replicate (cs.length) (Value.int 0)).set 0 (.int (StrChars.lo8 (cs.getD 0 0)))), rfl, N104, ((Keep.refl hE [t]).trans Kq104 (allS (Or.inl (List.mem_of_getElem? (i := 0) rfl)) all0)), f104, (Or.inr ⟨1, by omega, rfl, hc110⟩)⟩
      · obtain ⟨T112, h112, L112, X112, e112, N112, Kq112, f112, st112⟩ := own_sb X104 hx hZ e104 f104 1 (c := ((cs.getD 1 0).toInt8.toInt32)) (w := (StrChars.lo8 (cs.getD 1 0))) (j := (1 : Int32)) (own_nb _) rfl (own_w0 (n := 1) (m := cs.length) (by omega) (by omega)) (by simp only [List.length_set, List.nil_append, List.length_replicate]; omega) N104 g_t (g := (mkF mi 31 #[.val (.ref v), .val (.int 1), .val (.ref t), .val (.int 1), .val (.int (Int32.ofNat cs.length)), .val (.int 1), .val (.int (cs.getD 1 0))] [(.int ((cs.getD 1 0).toInt8.toInt32)), (.int 1), (.ref t)])) rfl rfl (hb hby dj19_31)
        have pre114 : ∀ tt, SP pg ev below (T112.setTop (mkF mi 7 #[.val (.ref v), .val (.int 2), .val (.ref t), .val (.int 2), .val (.int (Int32.ofNat cs.length)), .val (.int 2), .val (.int (cs.getD 1 0))] [(.int (Int32.ofNat cs.length)), (.int 2)])) tt → SP pg ev below (s₁.setTop (entryFrame mi #[(.ref v), (.int 0), (.ref t), (.int 0), (.int (Int32.ofNat cs.length))] 7)) tt := fun tt kk => pre111 _ (by
          show SP pg ev below (T104.setTop (mkF mi 20 #[.val (.ref v), .val (.int 1), .val (.ref t), .val (.int 1), .val (.int (Int32.ofNat cs.length)), .val (.int 1), .val (.int (cs.getD 1 0))] [(.int 255), (.int (cs.getD 1 0))])) _
          refine XS.icmpYes X104.here hx rfl (pc0 := 20) (pc' := 26) rfl (hb hby dj19_20) rfl (flt hc110).2.2.2 (by decide) (by decide) ?_
          refine XS.aloadN X104.here hx rfl (hb hby dj19_26) rfl rfl ?_
          refine XS.iloadN X104.here hx rfl (hb hby dj19_27) rfl ?_
          refine XS.iload X104.here hx rfl (hb hby dj19_28) rfl ?_
          refine XS.i2b X104.here hx rfl (hb hby dj19_30) rfl ?_
          refine st112 _ ?_
          refine XS.iinc X112.here hx rfl (hb hby dj19_32) rfl (l' := #[.val (.ref v), .val (.int 2), .val (.ref t), .val (.int 1), .val (.int (Int32.ofNat cs.length)), .val (.int 1), .val (.int (cs.getD 1 0))]) rfl ?_
          refine XS.iinc X112.here hx rfl (hb hby dj19_35) rfl (l' := #[.val (.ref v), .val (.int 2), .val (.ref t), .val (.int 2), .val (.int (Int32.ofNat cs.length)), .val (.int 1), .val (.int (cs.getD 1 0))]) rfl ?_
          refine XS.iinc X112.here hx rfl (hb hby dj19_38) rfl (l' := #[.val (.ref v), .val (.int 2), .val (.ref t), .val (.int 2), .val (.int (Int32.ofNat cs.length)), .val (.int 2), .val (.int (cs.getD 1 0))]) rfl ?_
          refine XS.goto X112.here hx rfl (pc0 := 41) (pc' := 3) rfl (hb hby dj19_41) (by decide) (by decide) ?_
          refine XS.iload X112.here hx rfl (hb hby dj19_3) rfl ?_
          refine XS.iload X112.here hx rfl (hb hby dj19_5) rfl ?_
          exact kk)
        by_cases hc113 : (2 : Int32) < (Int32.ofNat cs.length)
        · have hk_115 : 2 < cs.length := ((own_lt8 (a := 2) (b := cs.length) (by omega) (by omega)).mp hc113)
          have f116 : Arv Z h112 v kv .char (Int32.ofNat cs.length) (cs.map Value.int) (.int 0) := (f108.keep Kq112 (ninS ne_v_t nin0))
          obtain ⟨cl117, Ar117, -, Sz117, Nn117, Hh117, -⟩ := id f116
          have hin117 : ¬ ((2 : Int32) < 0 ∨ cl117.slots.size ≤ ((2 : Int32)).toNatClampNeg) := inb_of Sz117 (own_w0 (n := 2) (m := cs.length) (by omega) (by omega))
          have hat117 : cl117.slots[((2 : Int32)).toNatClampNeg]? = some (.int (cs.getD 2 0)) := Hh117.at hin117 (own_cget (i := 2) (by omega))
          have pre119 : ∀ tt, SP pg ev below (T112.setTop (mkF mi 20 #[.val (.ref v), .val (.int 2), .val (.ref t), .val (.int 2), .val (.int (Int32.ofNat cs.length)), .val (.int 2), .val (.int (cs.getD 2 0))] [(.int 255), (.int (cs.getD 2 0))])) tt → SP pg ev below (s₁.setTop (entryFrame mi #[(.ref v), (.int 0), (.ref t), (.int 0), (.int (Int32.ofNat cs.length))] 7)) tt := fun tt kk => pre114 _ (by
            show SP pg ev below (T112.setTop (mkF mi 7 #[.val (.ref v), .val (.int 2), .val (.ref t), .val (.int 2), .val (.int (Int32.ofNat cs.length)), .val (.int 2), .val (.int (cs.getD 1 0))] [(.int (Int32.ofNat cs.length)), (.int 2)])) _
            refine XS.icmpNo X112.here hx rfl (hb hby dj19_7) rfl (tlt hc113).2.1 ?_
            refine XS.aloadN X112.here hx rfl (hb hby dj19_10) rfl rfl ?_
            refine XS.iloadN X112.here hx rfl (hb hby dj19_11) rfl ?_
            refine X112.caload hx (j := (2 : Int32)) (v := (.int (cs.getD 2 0))) (by rw [e112]; exact Ar117.1) (State.isArrayOf_alike hZ.alike Ar117.2.1) Ar117.2.2 hin117 hat117 (g := (mkF mi 12 #[.val (.ref v), .val (.int 2), .val (.ref t), .val (.int 2), .val (.int (Int32.ofNat cs.length)), .val (.int 2), .val (.int (cs.getD 1 0))] [(.int 2), (.ref v)])) rfl rfl (hb hby dj19_12) _ ?_
            refine XS.istore X112.here hx rfl (hb hby dj19_13) rfl (l' := #[.val (.ref v), .val (.int 2), .val (.ref t), .val (.int 2), .val (.int (Int32.ofNat cs.length)), .val (.int 2), .val (.int (cs.getD 2 0))]) rfl ?_
            refine XS.iload X112.here hx rfl (hb hby dj19_15) rfl ?_
            refine XS.sipush X112.here hx rfl (hb hby dj19_17) ?_
            exact kk)
          by_cases hc118 : (255 : Int32) < (cs.getD 2 0)
          · obtain ⟨fs, hr, hrun, hended, hW, hsame⟩ := X112.leave (v := some (.int 2)) (fun hq => by rw [Bd.returns] at hq; cases hq)
            refine ⟨_, _, pre119 _ ?_, hrun, hended, _, _, rfl, ?_, ⟨_, rfl⟩, hW, hsame.mono (by decide) (by decide)⟩
            · show SP pg ev below (T112.setTop (mkF mi 20 #[.val (.ref v), .val (.int 2), .val (.ref t), .val (.int 2), .val (.int (Int32.ofNat cs.length)), .val (.int 2), .val (.int (cs.getD 2 0))] [(.int 255), (.int (cs.getD 2 0))])) _
              refine XS.icmpNo X112.here hx rfl (hb hby dj19_20) rfl (tlt hc118).2.2.2 ?_
              refine XS.iload X112.here hx rfl (hb hby dj19_23) rfl ?_
              show SP pg ev below (T112.setTop (mkF mi 25 #[.val (.ref v), .val (.int 2), .val (.ref t), .val (.int 2), .val (.int (Int32.ofNat cs.length)), .val (.int 2), .val (.int (cs.getD 2 0))] [(.int 2)])) _
              exact retI X112 hx Bd.returns (hb hby dj19_25) hr
            · show Q_cpX Z v t kv kt cs hE n0 _ T112.heap _
              rw [e112]
              exact ⟨(2 : Int32), ((([] ++ List.replicate (cs.length) (Value.int 0)).set 0 (.int (StrChars.lo8 (cs.getD 0 0)))).set 1 (.int (StrChars.lo8 (cs.getD 1 0)))), rfl, N112, (((Keep.refl hE [t]).trans Kq104 (allS (Or.inl (List.mem_of_getElem? (i := 0) rfl)) all0)).trans Kq112 (allS (Or.inl (List.mem_of_getElem? (i := 0) rfl)) all0)), f112, (Or.inr ⟨2, by omega, rfl, hc118⟩)⟩
          · obtain ⟨T120, h120, L120, X120, e120, N120, Kq120, f120, st120⟩ := own_sb X112 hx hZ e112 f112 2 (c := ((cs.getD 2 0).toInt8.toInt32)) (w := (StrChars.lo8 (cs.getD 2 0))) (j := (2 : Int32)) (own_nb _) rfl (own_w0 (n := 2) (m := cs.length) (by omega) (by omega)) (by simp only [List.length_set, List.nil_append, List.length_replicate]; omega) N112 g_t (g := (mkF mi 31 #[.val (.ref v), .val (.int 2), .val (.ref t), .val (.int 2), .val (.int (Int32.ofNat cs.length)), .val (.int 2), .val (.int (cs.getD 2 0))] [(.int ((cs.getD 2 0).toInt8.toInt32)), (.int 2), (.ref t)])) rfl rfl (hb hby dj19_31)
            have pre122 : ∀ tt, SP pg ev below (T120.setTop (mkF mi 7 #[.val (.ref v), .val (.int 3), .val (.ref t), .val (.int 3), .val (.int (Int32.ofNat cs.length)), .val (.int 3), .val (.int (cs.getD 2 0))] [(.int (Int32.ofNat cs.length)), (.int 3)])) tt → SP pg ev below (s₁.setTop (entryFrame mi #[(.ref v), (.int 0), (.ref t), (.int 0), (.int (Int32.ofNat cs.length))] 7)) tt := fun tt kk => pre119 _ (by
              show SP pg ev below (T112.setTop (mkF mi 20 #[.val (.ref v), .val (.int 2), .val (.ref t), .val (.int 2), .val (.int (Int32.ofNat cs.length)), .val (.int 2), .val (.int (cs.getD 2 0))] [(.int 255), (.int (cs.getD 2 0))])) _
              refine XS.icmpYes X112.here hx rfl (pc0 := 20) (pc' := 26) rfl (hb hby dj19_20) rfl (flt hc118).2.2.2 (by decide) (by decide) ?_
              refine XS.aloadN X112.here hx rfl (hb hby dj19_26) rfl rfl ?_
              refine XS.iloadN X112.here hx rfl (hb hby dj19_27) rfl ?_
              refine XS.iload X112.here hx rfl (hb hby dj19_28) rfl ?_
              refine XS.i2b X112.here hx rfl (hb hby dj19_30) rfl ?_
              refine st120 _ ?_
              refine XS.iinc X120.here hx rfl (hb hby dj19_32) rfl (l' := #[.val (.ref v), .val (.int 3), .val (.ref t), .val (.int 2), .val (.int (Int32.ofNat cs.length)), .val (.int 2), .val (.int (cs.getD 2 0))]) rfl ?_
              refine XS.iinc X120.here hx rfl (hb hby dj19_35) rfl (l' := #[.val (.ref v), .val (.int 3), .val (.ref t), .val (.int 3), .val (.int (Int32.ofNat cs.length)), .val (.int 2), .val (.int (cs.getD 2 0))]) rfl ?_
              refine XS.iinc X120.here hx rfl (hb hby dj19_38) rfl (l' := #[.val (.ref v), .val (.int 3), .val (.ref t), .val (.int 3), .val (.int (Int32.ofNat cs.length)), .val (.int 3), .val (.int (cs.getD 2 0))]) rfl ?_
              refine XS.goto X120.here hx rfl (pc0 := 41) (pc' := 3) rfl (hb hby dj19_41) (by decide) (by decide) ?_
              refine XS.iload X120.here hx rfl (hb hby dj19_3) rfl ?_
              refine XS.iload X120.here hx rfl (hb hby dj19_5) rfl ?_
              exact kk)
            by_cases hc121 : (3 : Int32) < (Int32.ofNat cs.length)
            · have hk_123 : 3 < cs.length := ((own_lt8 (a := 3) (b := cs.length) (by omega) (by omega)).mp hc121)
              have f124 : Arv Z h120 v kv .char (Int32.ofNat cs.length) (cs.map Value.int) (.int 0) := (f116.keep Kq120 (ninS ne_v_t nin0))
              obtain ⟨cl125, Ar125, -, Sz125, Nn125, Hh125, -⟩ := id f124
              have hin125 : ¬ ((3 : Int32) < 0 ∨ cl125.slots.size ≤ ((3 : Int32)).toNatClampNeg) := inb_of Sz125 (own_w0 (n := 3) (m := cs.length) (by omega) (by omega))
              have hat125 : cl125.slots[((3 : Int32)).toNatClampNeg]? = some (.int (cs.getD 3 0)) := Hh125.at hin125 (own_cget (i := 3) (by omega))
              have pre127 : ∀ tt, SP pg ev below (T120.setTop (mkF mi 20 #[.val (.ref v), .val (.int 3), .val (.ref t), .val (.int 3), .val (.int (Int32.ofNat cs.length)), .val (.int 3), .val (.int (cs.getD 3 0))] [(.int 255), (.int (cs.getD 3 0))])) tt → SP pg ev below (s₁.setTop (entryFrame mi #[(.ref v), (.int 0), (.ref t), (.int 0), (.int (Int32.ofNat cs.length))] 7)) tt := fun tt kk => pre122 _ (by
                show SP pg ev below (T120.setTop (mkF mi 7 #[.val (.ref v), .val (.int 3), .val (.ref t), .val (.int 3), .val (.int (Int32.ofNat cs.length)), .val (.int 3), .val (.int (cs.getD 2 0))] [(.int (Int32.ofNat cs.length)), (.int 3)])) _
                refine XS.icmpNo X120.here hx rfl (hb hby dj19_7) rfl (tlt hc121).2.1 ?_
                refine XS.aloadN X120.here hx rfl (hb hby dj19_10) rfl rfl ?_
                refine XS.iloadN X120.here hx rfl (hb hby dj19_11) rfl ?_
                refine X120.caload hx (j := (3 : Int32)) (v := (.int (cs.getD 3 0))) (by rw [e120]; exact Ar125.1) (State.isArrayOf_alike hZ.alike Ar125.2.1) Ar125.2.2 hin125 hat125 (g := (mkF mi 12 #[.val (.ref v), .val (.int 3), .val (.ref t), .val (.int 3), .val (.int (Int32.ofNat cs.length)), .val (.int 3), .val (.int (cs.getD 2 0))] [(.int 3), (.ref v)])) rfl rfl (hb hby dj19_12) _ ?_
                refine XS.istore X120.here hx rfl (hb hby dj19_13) rfl (l' := #[.val (.ref v), .val (.int 3), .val (.ref t), .val (.int 3), .val (.int (Int32.ofNat cs.length)), .val (.int 3), .val (.int (cs.getD 3 0))]) rfl ?_
                refine XS.iload X120.here hx rfl (hb hby dj19_15) rfl ?_
                refine XS.sipush X120.here hx rfl (hb hby dj19_17) ?_
                exact kk)
              by_cases hc126 : (255 : Int32) < (cs.getD 3 0)
              · obtain ⟨fs, hr, hrun, hended, hW, hsame⟩ := X120.leave (v := some (.int 3)) (fun hq => by rw [Bd.returns] at hq; cases hq)
                refine ⟨_, _, pre127 _ ?_, hrun, hended, _, _, rfl, ?_, ⟨_, rfl⟩, hW, hsame.mono (by decide) (by decide)⟩
                · show SP pg ev below (T120.setTop (mkF mi 20 #[.val (.ref v), .val (.int 3), .val (.ref t), .val (.int 3), .val (.int (Int32.ofNat cs.length)), .val (.int 3), .val (.int (cs.getD 3 0))] [(.int 255), (.int (cs.getD 3 0))])) _
                  refine XS.icmpNo X120.here hx rfl (hb hby dj19_20) rfl (tlt hc126).2.2.2 ?_
                  refine XS.iload X120.here hx rfl (hb hby dj19_23) rfl ?_
                  show SP pg ev below (T120.setTop (mkF mi 25 #[.val (.ref v), .val (.int 3), .val (.ref t), .val (.int 3), .val (.int (Int32.ofNat cs.length)), .val (.int 3), .val (.int (cs.getD 3 0))] [(.int 3)])) _
                  exact retI X120 hx Bd.returns (hb hby dj19_25) hr
                · show Q_cpX Z v t kv kt cs hE n0 _ T120.heap _
                  rw [e120]
                  exact ⟨(3 : Int32), (((([] ++ List.replicate (cs.length) (Value.int 0)).set 0 (.int (StrChars.lo8 (cs.getD 0 0)))).set 1 (.int (StrChars.lo8 (cs.getD 1 0)))).set 2 (.int (StrChars.lo8 (cs.getD 2 0)))), rfl, N120, ((((Keep.refl hE [t]).trans Kq104 (allS (Or.inl (List.mem_of_getElem? (i := 0) rfl)) all0)).trans Kq112 (allS (Or.inl (List.mem_of_getElem? (i := 0) rfl)) all0)).trans Kq120 (allS (Or.inl (List.mem_of_getElem? (i := 0) rfl)) all0)), f120, (Or.inr ⟨3, by omega, rfl, hc126⟩)⟩
              · obtain ⟨T128, h128, L128, X128, e128, N128, Kq128, f128, st128⟩ := own_sb X120 hx hZ e120 f120 3 (c := ((cs.getD 3 0).toInt8.toInt32)) (w := (StrChars.lo8 (cs.getD 3 0))) (j := (3 : Int32)) (own_nb _) rfl (own_w0 (n := 3) (m := cs.length) (by omega) (by omega)) (by simp only [List.length_set, List.nil_append, List.length_replicate]; omega) N120 g_t (g := (mkF mi 31 #[.val (.ref v), .val (.int 3), .val (.ref t), .val (.int 3), .val (.int (Int32.ofNat cs.length)), .val (.int 3), .val (.int (cs.getD 3 0))] [(.int ((cs.getD 3 0).toInt8.toInt32)), (.int 3), (.ref t)])) rfl rfl (hb hby dj19_31)
                obtain ⟨fs, hr, hrun, hended, hW, hsame⟩ := X128.leave (v := some (.int (Int32.ofNat cs.length))) (fun hq => by rw [Bd.returns] at hq; cases hq)
                refine ⟨_, _, pre127 _ ?_, hrun, hended, _, _, rfl, ?_, ⟨_, rfl⟩, hW, hsame.mono (by decide) (by decide)⟩
                · show SP pg ev below (T120.setTop (mkF mi 20 #[.val (.ref v), .val (.int 3), .val (.ref t), .val (.int 3), .val (.int (Int32.ofNat cs.length)), .val (.int 3), .val (.int (cs.getD 3 0))] [(.int 255), (.int (cs.getD 3 0))])) _
                  refine XS.icmpYes X120.here hx rfl (pc0 := 20) (pc' := 26) rfl (hb hby dj19_20) rfl (flt hc126).2.2.2 (by decide) (by decide) ?_
                  refine XS.aloadN X120.here hx rfl (hb hby dj19_26) rfl rfl ?_
                  refine XS.iloadN X120.here hx rfl (hb hby dj19_27) rfl ?_
                  refine XS.iload X120.here hx rfl (hb hby dj19_28) rfl ?_
                  refine XS.i2b X120.here hx rfl (hb hby dj19_30) rfl ?_
                  refine st128 _ ?_
                  refine XS.iinc X128.here hx rfl (hb hby dj19_32) rfl (l' := #[.val (.ref v), .val (.int 4), .val (.ref t), .val (.int 3), .val (.int (Int32.ofNat cs.length)), .val (.int 3), .val (.int (cs.getD 3 0))]) rfl ?_
                  refine XS.iinc X128.here hx rfl (hb hby dj19_35) rfl (l' := #[.val (.ref v), .val (.int 4), .val (.ref t), .val (.int 4), .val (.int (Int32.ofNat cs.length)), .val (.int 3), .val (.int (cs.getD 3 0))]) rfl ?_
                  refine XS.iinc X128.here hx rfl (hb hby dj19_38) rfl (l' := #[.val (.ref v), .val (.int 4), .val (.ref t), .val (.int 4), .val (.int (Int32.ofNat cs.length)), .val (.int 4), .val (.int (cs.getD 3 0))]) rfl ?_
                  refine XS.goto X128.here hx rfl (pc0 := 41) (pc' := 3) rfl (hb hby dj19_41) (by decide) (by decide) ?_
                  refine XS.iload X128.here hx rfl (hb hby dj19_3) rfl ?_
                  refine XS.iload X128.here hx rfl (hb hby dj19_5) rfl ?_
                  refine XS.icmpYes X128.here hx rfl (pc0 := 7) (pc' := 44) rfl (hb hby dj19_7) rfl (flt (fun q => absurd ((own_lt8 (a := 4) (b := cs.length) (by omega) (by omega)).mp q) (by omega))).2.1 (by decide) (by decide) ?_
                  refine XS.iload X128.here hx rfl (hb hby dj19_44) rfl ?_
                  show SP pg ev below (T128.setTop (mkF mi 46 #[.val (.ref v), .val (.int 4), .val (.ref t), .val (.int 4), .val (.int (Int32.ofNat cs.length)), .val (.int 4), .val (.int (cs.getD 3 0))] [(.int (Int32.ofNat cs.length))])) _
                  exact retI X128 hx Bd.returns (hb hby dj19_46) hr
                · show Q_cpX Z v t kv kt cs hE n0 _ T128.heap _
                  rw [e128]
                  exact ⟨(Int32.ofNat cs.length), ((((([] ++ List.replicate (cs.length) (Value.int 0)).set 0 (.int (StrChars.lo8 (cs.getD 0 0)))).set 1 (.int (StrChars.lo8 (cs.getD 1 0)))).set 2 (.int (StrChars.lo8 (cs.getD 2 0)))).set 3 (.int (StrChars.lo8 (cs.getD 3 0)))), rfl, N128, (((((Keep.refl hE [t]).trans Kq104 (allS (Or.inl (List.mem_of_getElem? (i := 0) rfl)) all0)).trans Kq112 (allS (Or.inl (List.mem_of_getElem? (i := 0) rfl)) all0)).trans Kq120 (allS (Or.inl (List.mem_of_getElem? (i := 0) rfl)) all0)).trans Kq128 (allS (Or.inl (List.mem_of_getElem? (i := 0) rfl)) all0)), f128, (by obtain ⟨c0, c1, c2, c3, rfl⟩ := own_e4 (by omega : cs.length = 4); exact Or.inl ⟨rfl, rfl, (List.forall_mem_cons.mpr ⟨hc102, (List.forall_mem_cons.mpr ⟨hc110, (List.forall_mem_cons.mpr ⟨hc118, (List.forall_mem_cons.mpr ⟨hc126, (fun _ h => nomatch h)⟩)⟩)⟩)⟩)⟩)⟩
            · obtain ⟨fs, hr, hrun, hended, hW, hsame⟩ := X120.leave (v := some (.int (Int32.ofNat cs.length))) (fun hq => by rw [Bd.returns] at hq; cases hq)
              refine ⟨_, _, pre122 _ ?_, hrun, hended, _, _, rfl, ?_, ⟨_, rfl⟩, hW, hsame.mono (by decide) (by decide)⟩
              · show SP pg ev below (T120.setTop (mkF mi 7 #[.val (.ref v), .val (.int 3), .val (.ref t), .val (.int 3), .val (.int (Int32.ofNat cs.length)), .val (.int 3), .val (.int (cs.getD 2 0))] [(.int (Int32.ofNat cs.length)), (.int 3)])) _
                refine XS.icmpYes X120.here hx rfl (pc0 := 7) (pc' := 44) rfl (hb hby dj19_7) rfl (flt hc121).2.1 (by decide) (by decide) ?_
                refine XS.iload X120.here hx rfl (hb hby dj19_44) rfl ?_
                show SP pg ev below (T120.setTop (mkF mi 46 #[.val (.ref v), .val (.int 3), .val (.ref t), .val (.int 3), .val (.int (Int32.ofNat cs.length)), .val (.int 3), .val (.int (cs.getD 2 0))] [(.int (Int32.ofNat cs.length))])) _
                exact retI X120 hx Bd.returns (hb hby dj19_46) hr
              · show Q_cpX Z v t kv kt cs hE n0 _ T120.heap _
                rw [e120]
                exact ⟨(Int32.ofNat cs.length), (((([] ++ List.replicate (cs.length) (Value.int 0)).set 0 (.int (StrChars.lo8 (cs.getD 0 0)))).set 1 (.int (StrChars.lo8 (cs.getD 1 0)))).set 2 (.int (StrChars.lo8 (cs.getD 2 0)))), rfl, N120, ((((Keep.refl hE [t]).trans Kq104 (allS (Or.inl (List.mem_of_getElem? (i := 0) rfl)) all0)).trans Kq112 (allS (Or.inl (List.mem_of_getElem? (i := 0) rfl)) all0)).trans Kq120 (allS (Or.inl (List.mem_of_getElem? (i := 0) rfl)) all0)), f120, (by obtain ⟨c0, c1, c2, rfl⟩ := own_e3 (by have := (show ¬ (3 < cs.length) from fun z => hc121 ((own_lt8 (a := 3) (b := cs.length) (by omega) (by omega)).mpr z)); omega : cs.length = 3); exact Or.inl ⟨rfl, rfl, (List.forall_mem_cons.mpr ⟨hc102, (List.forall_mem_cons.mpr ⟨hc110, (List.forall_mem_cons.mpr ⟨hc118, (fun _ h => nomatch h)⟩)⟩)⟩)⟩)⟩
        · obtain ⟨fs, hr, hrun, hended, hW, hsame⟩ := X112.leave (v := some (.int (Int32.ofNat cs.length))) (fun hq => by rw [Bd.returns] at hq; cases hq)
          refine ⟨_, _, pre114 _ ?_, hrun, hended, _, _, rfl, ?_, ⟨_, rfl⟩, hW, hsame.mono (by decide) (by decide)⟩
          · show SP pg ev below (T112.setTop (mkF mi 7 #[.val (.ref v), .val (.int 2), .val (.ref t), .val (.int 2), .val (.int (Int32.ofNat cs.length)), .val (.int 2), .val (.int (cs.getD 1 0))] [(.int (Int32.ofNat cs.length)), (.int 2)])) _
            refine XS.icmpYes X112.here hx rfl (pc0 := 7) (pc' := 44) rfl (hb hby dj19_7) rfl (flt hc113).2.1 (by decide) (by decide) ?_
            refine XS.iload X112.here hx rfl (hb hby dj19_44) rfl ?_
            show SP pg ev below (T112.setTop (mkF mi 46 #[.val (.ref v), .val (.int 2), .val (.ref t), .val (.int 2), .val (.int (Int32.ofNat cs.length)), .val (.int 2), .val (.int (cs.getD 1 0))] [(.int (Int32.ofNat cs.length))])) _
            exact retI X112 hx Bd.returns (hb hby dj19_46) hr
          · show Q_cpX Z v t kv kt cs hE n0 _ T112.heap _
            rw [e112]
            exact ⟨(Int32.ofNat cs.length), ((([] ++ List.replicate (cs.length) (Value.int 0)).set 0 (.int (StrChars.lo8 (cs.getD 0 0)))).set 1 (.int (StrChars.lo8 (cs.getD 1 0)))), rfl, N112, (((Keep.refl hE [t]).trans Kq104 (allS (Or.inl (List.mem_of_getElem? (i := 0) rfl)) all0)).trans Kq112 (allS (Or.inl (List.mem_of_getElem? (i := 0) rfl)) all0)), f112, (by obtain ⟨c0, c1, rfl⟩ := own_e2 (by have := (show ¬ (2 < cs.length) from fun z => hc113 ((own_lt8 (a := 2) (b := cs.length) (by omega) (by omega)).mpr z)); omega : cs.length = 2); exact Or.inl ⟨rfl, rfl, (List.forall_mem_cons.mpr ⟨hc102, (List.forall_mem_cons.mpr ⟨hc110, (fun _ h => nomatch h)⟩)⟩)⟩)⟩
    · obtain ⟨fs, hr, hrun, hended, hW, hsame⟩ := X104.leave (v := some (.int (Int32.ofNat cs.length))) (fun hq => by rw [Bd.returns] at hq; cases hq)
      refine ⟨_, _, pre106 _ ?_, hrun, hended, _, _, rfl, ?_, ⟨_, rfl⟩, hW, hsame.mono (by decide) (by decide)⟩
      · show SP pg ev below (T104.setTop (mkF mi 7 #[.val (.ref v), .val (.int 1), .val (.ref t), .val (.int 1), .val (.int (Int32.ofNat cs.length)), .val (.int 1), .val (.int (cs.getD 0 0))] [(.int (Int32.ofNat cs.length)), (.int 1)])) _
        refine XS.icmpYes X104.here hx rfl (pc0 := 7) (pc' := 44) rfl (hb hby dj19_7) rfl (flt hc105).2.1 (by decide) (by decide) ?_
        refine XS.iload X104.here hx rfl (hb hby dj19_44) rfl ?_
        show SP pg ev below (T104.setTop (mkF mi 46 #[.val (.ref v), .val (.int 1), .val (.ref t), .val (.int 1), .val (.int (Int32.ofNat cs.length)), .val (.int 1), .val (.int (cs.getD 0 0))] [(.int (Int32.ofNat cs.length))])) _
        exact retI X104 hx Bd.returns (hb hby dj19_46) hr
      · show Q_cpX Z v t kv kt cs hE n0 _ T104.heap _
        rw [e104]
        exact ⟨(Int32.ofNat cs.length), (([] ++ List.replicate (cs.length) (Value.int 0)).set 0 (.int (StrChars.lo8 (cs.getD 0 0)))), rfl, N104, ((Keep.refl hE [t]).trans Kq104 (allS (Or.inl (List.mem_of_getElem? (i := 0) rfl)) all0)), f104, (by obtain ⟨c0, rfl⟩ := own_e1 (by have := (show ¬ (1 < cs.length) from fun z => hc105 ((own_lt8 (a := 1) (b := cs.length) (by omega) (by omega)).mpr z)); omega : cs.length = 1); exact Or.inl ⟨rfl, rfl, (List.forall_mem_cons.mpr ⟨hc102, (fun _ h => nomatch h)⟩)⟩)⟩
theorem dj20_0 : decode jc20 0 = .ok (.iload_n 2, 1) := by decide +kernel
theorem dj20_1 : decode jc20 1 = .ok (.newarray .byte, 2) := by decide +kernel
theorem dj20_3 : decode jc20 3 = .ok (.astore_n 3, 1) := by decide +kernel
theorem dj20_4 : decode jc20 4 = .ok (.aload_n 0, 1) := by decide +kernel
theorem dj20_5 : decode jc20 5 = .ok (.iload_n 1, 1) := by decide +kernel
theorem dj20_6 : decode jc20 6 = .ok (.aload_n 3, 1) := by decide +kernel
theorem dj20_7 : decode jc20 7 = .ok (.iconst 0, 1) := by decide +kernel
theorem dj20_8 : decode jc20 8 = .ok (.iload_n 2, 1) := by decide +kernel
theorem dj20_9 : decode jc20 9 = .ok (.invokestatic 115, 3) := by decide +kernel
theorem dj20_12 : decode jc20 12 = .ok (.istore 4, 2) := by decide +kernel
theorem dj20_14 : decode jc20 14 = .ok (.iload 4, 2) := by decide +kernel
theorem dj20_16 : decode jc20 16 = .ok (.iload_n 2, 1) := by decide +kernel
theorem dj20_17 : decode jc20 17 = .ok (.if_icmp .eq 40, 3) := by decide +kernel
theorem dj20_20 : decode jc20 20 = .ok (.aload_n 0, 1) := by decide +kernel
theorem dj20_21 : decode jc20 21 = .ok (.iload_n 1, 1) := by decide +kernel
theorem dj20_22 : decode jc20 22 = .ok (.iload_n 2, 1) := by decide +kernel
theorem dj20_23 : decode jc20 23 = .ok (.invokestatic 119, 3) := by decide +kernel
theorem dj20_26 : decode jc20 26 = .ok (.astore 5, 2) := by decide +kernel
theorem dj20_28 : decode jc20 28 = .ok (.aload 5, 2) := by decide +kernel
theorem dj20_30 : decode jc20 30 = .ok (.iload 4, 2) := by decide +kernel
theorem dj20_32 : decode jc20 32 = .ok (.invokestatic 71, 3) := by decide +kernel
theorem dj20_35 : decode jc20 35 = .ok (.sipush 255, 3) := by decide +kernel
theorem dj20_38 : decode jc20 38 = .ok (.if_icmp .gt 16, 3) := by decide +kernel
theorem dj20_54 : decode jc20 54 = .ok (.aload 5, 2) := by decide +kernel
theorem dj20_56 : decode jc20 56 = .ok (.areturn, 1) := by decide +kernel
theorem dj20_57 : decode jc20 57 = .ok (.aload_n 3, 1) := by decide +kernel
theorem dj20_58 : decode jc20 58 = .ok (.areturn, 1) := by decide +kernel
theorem pd_8 : parseMethodDescriptor "([CI[BII)I" = some ⟨[(.array .char), .int, (.array .byte), .int, .int], some .int⟩ := by decide +kernel
theorem pd_9 : parseMethodDescriptor "([CII)[B" = some ⟨[(.array .char), .int, .int], some (.array .byte)⟩ := by decide +kernel
theorem pd_10 : parseMethodDescriptor "([BI)C" = some ⟨[(.array .byte), .int], some .char⟩ := by decide +kernel
theorem ef_cmc (mi : MethodId) (v : Addr) (cs : List Int32) : entryFrame mi #[(.ref v), (.int 0), (.int (Int32.ofNat cs.length))] 6 = mkF mi 0 #[.val (.ref v), .val (.int 0), .val (.int (Int32.ofNat cs.length)), .unset, .unset, .unset] [] := rfl
def Q_cmc (Z : State) (v : Addr) (kv : ClassId) (cs : List Int32) (hE : Heap) (n0 : Nat) (vv : Option Value) (hh : Heap) (LL : List Loc) : Prop := ∃ t : Addr, ∃ kt : ClassId, ∃ cd : Int32, ∃ N2 : Int32, ∃ vs : List Value, (vv = some (.ref t)) ∧ (Fr n0 LL) ∧ (Keep hE hh []) ∧ (hE.size ≤ t) ∧ (Arv Z hh t kt .byte N2 vs (.int 0)) ∧ (StrChars.Road.CodA cs cd N2 vs)
theorem rm_cmc (hw : HW a0 Z) (ws : List Cond) (v : Addr) (kv : ClassId) (cs : List Int32) (hE : Heap) (n0 : Nat) (O : Old Z n0 hE) (P0_ : Arv Z hE v kv .char (Int32.ofNat cs.length) (cs.map Value.int) (.int 0)) (D0_ : Sta Z Z.heap c1_ c6_ "Z" (.int 1)) (D1_ : Sta Z Z.heap c1_ c9_ "I" (.int 0)) (D2_ : Sta Z Z.heap c1_ c10_ "I" (.int 8)) (h0 : 0 < cs.length) (h4 : cs.length ≤ 4) (hbd : ∀ c ∈ cs, ¬ c < 0 ∧ ¬ (65535 : Int32) < c) :
    MF la Z hE mn19 jc20 6 (some (.array .byte)) ws (rr 3 2 12 40) #[(.ref v), (.int 0), (.int (Int32.ofNat cs.length))] (Q_cmc Z v kv cs hE n0) := by
  refine MetFree.of_bodySF (plainFor_of_name pn_java_lang_StringUTF16) hisR ?_
  intro pg ev sb mi gs below me cd s₁ Bd hml0 hPt hKt
  obtain ⟨rfl, hZ, hh⟩ := hPt
  have hx := Bd.exec
  have hby := Bd.bytes
  have hml : cd.maxLocals = 6 := hml0
  have hown : sb.vm.findClass c1_ = some mi.cls := findClass_of_methodNamed Bd.named
  have X0 : Stand pg la ev (rr 3 2 12 40) sb mi #[(.ref v), (.int 0), (.int (Int32.ofNat cs.length))] below me cd s₁ [] 0 0 := Stand.of_body Bd
  have eE : s₁.heap = hE := by rw [← hh, Bd.state]; rfl
  have N0 := Fr.nil n0
  have pre0 : ∀ tt, SP pg ev below (s₁.setTop (mkF mi 0 #[.val (.ref v), .val (.int 0), .val (.int (Int32.ofNat cs.length)), .unset, .unset, .unset] [])) tt → SP pg ev below (s₁.setTop (entryFrame mi #[(.ref v), (.int 0), (.int (Int32.ofNat cs.length))] 6)) tt := fun tt kk => castTop (ef_cmc mi v cs) kk
  obtain ⟨T101, h101, k101, X101, e101, E101, A101, st101⟩ := newP (aty := .byte) X0 hx hZ (wd23 hw) eE (g := (mkF mi 1 #[.val (.ref v), .val (.int 0), .val (.int (Int32.ofNat cs.length)), .unset, .unset, .unset] [(.int (Int32.ofNat cs.length))])) rfl (hb hby dj20_1) rfl (own_nn8 (by omega)) (cap := 4) (by rw [own_wn (by omega)]; omega) (by decide) (by decide) (by decide)
  obtain ⟨b101, q101⟩ : ∃ z, z = hE.size := ⟨_, rfl⟩
  rw [← q101] at A101 st101
  have f102 : Arv Z h101 b101 k101 .byte (Int32.ofNat cs.length) ([] ++ List.replicate (cs.length) (Value.int 0)) (.int 0) := (Arv.new A101 (own_nn8 (by omega))).pad (pad_rep [] (.int 0) (cs.length))
  have O103 : Old Z n0 h101 := (O.ext E101)
  have f104 : Arv Z h101 v kv .char (Int32.ofNat cs.length) (cs.map Value.int) (.int 0) := (P0_.ext E101)
  have g_b101 : n0 ≤ b101 := Nat.le_trans (Nat.le_trans (Nat.le_of_eq O.1.symm) O.2.1) (Nat.le_of_eq q101.symm)
  have ne_v_b101 : v ≠ b101 := Nat.ne_of_lt (Nat.lt_of_lt_of_le P0_.lt (Nat.le_trans (Nat.le_refl _) (Nat.le_of_eq q101.symm)))
  obtain ⟨v105, _, ⟨T105, L105, k105, n105⟩, -, X105, ⟨Lc105, hQ105, l105, y105, z105⟩, st105⟩ := Jvm.LawKit.callS X101 hx (y := mn18) hown (mvT hZ (wd85 hw)) (mvT hZ (wd86 hw)) (mvT hZ (wd83 hw)) (mvT hZ (wd87 hw)) (by decide) (backOf (W := 0) (rm_cpX la Z a0 hw [] v b101 kv k101 cs h101 n0 O103 f104 f102 g_b101 ne_v_b101 (h0 : 0 < cs.length) (h4 : cs.length ≤ 4)) hZ (wd87 hw) (wd83 hw) (by decide) (by decide)) (g := (mkF mi 9 #[.val (.ref v), .val (.int 0), .val (.int (Int32.ofNat cs.length)), .val (.ref b101), .unset, .unset] [(.int (Int32.ofNat cs.length)), (.int 0), (.ref b101), (.int 0), (.ref v)])) rfl (by rw [hml]; rfl) (argsL := [(.ref v), (.int 0), (.ref b101), (.int 0), (.int (Int32.ofNat cs.length))]) (rest := []) (lenOf pd_8 rfl) rfl (Nat.le_of_ble_eq_true rfl) (hb hby dj20_9) (fun _ _ => ⟨rfl, e101, (by decide : 1 + 0 ≤ _), (by decide : 4 + 0 ≤ _)⟩)
  dsimp only [Pt.U, Pt.locs, Pt.cells, Pt.slots] at X105 l105 y105 z105 st105 hQ105
  subst l105 y105 z105
  obtain ⟨r_105, vs_105, rfl, Nq105, Kq105, r105_0, ph105_cpr⟩ := hQ105
  have N105 := Fr.app N0 Nq105
  have pre106 : ∀ tt, SP pg ev below (T105.setTop (mkF mi 12 #[.val (.ref v), .val (.int 0), .val (.int (Int32.ofNat cs.length)), .val (.ref b101), .unset, .unset] [(.int r_105)])) tt → SP pg ev below (s₁.setTop (entryFrame mi #[(.ref v), (.int 0), (.int (Int32.ofNat cs.length))] 6)) tt := fun tt kk => pre0 _ (by
    show SP pg ev below (s₁.setTop (mkF mi 0 #[.val (.ref v), .val (.int 0), .val (.int (Int32.ofNat cs.length)), .unset, .unset, .unset] [])) _
    refine XS.iloadN X0.here hx rfl (hb hby dj20_0) rfl ?_
    refine st101 _ ?_
    refine XS.astoreN X101.here hx rfl (hb hby dj20_3) rfl rfl (l' := #[.val (.ref v), .val (.int 0), .val (.int (Int32.ofNat cs.length)), .val (.ref b101), .unset, .unset]) rfl ?_
    refine XS.aloadN X101.here hx rfl (hb hby dj20_4) rfl rfl ?_
    refine XS.iloadN X101.here hx rfl (hb hby dj20_5) rfl ?_
    refine XS.aloadN X101.here hx rfl (hb hby dj20_6) rfl rfl ?_
    refine XS.iconst X101.here hx rfl (hb hby dj20_7) ?_
    refine XS.iloadN X101.here hx rfl (hb hby dj20_8) rfl ?_
    refine st105 _ ?_
    exact kk)
  rcases ph105_cpr with ⟨rfl, rfl, hq107⟩ | ⟨i107, hi107, rfl, hq107⟩
  · obtain ⟨fs, hr, hrun, hended, hW, hsame⟩ := X105.leave (v := some (.ref b101)) (fun hq => by rw [Bd.returns] at hq; cases hq)
    refine ⟨_, _, pre106 _ ?_, hrun, hended, _, _, rfl, ?_, ⟨_, rfl⟩, hW, hsame.mono (by decide) (by decide)⟩
    · show SP pg ev below (T105.setTop (mkF mi 12 #[.val (.ref v), .val (.int 0), .val (.int (Int32.ofNat cs.length)), .val (.ref b101), .unset, .unset] [(.int (Int32.ofNat cs.length))])) _
      refine XS.istore X105.here hx rfl (hb hby dj20_12) rfl (l' := #[.val (.ref v), .val (.int 0), .val (.int (Int32.ofNat cs.length)), .val (.ref b101), .val (.int (Int32.ofNat cs.length)), .unset]) rfl ?_
      refine XS.iload X105.here hx rfl (hb hby dj20_14) rfl ?_
      refine XS.iloadN X105.here hx rfl (hb hby dj20_16) rfl ?_
      refine XS.icmpYes X105.here hx rfl (pc0 := 17) (pc' := 57) rfl (hb hby dj20_17) rfl (teq (rfl : (Int32.ofNat cs.length) = (Int32.ofNat cs.length))).1 (by decide) (by decide) ?_
      refine XS.aloadN X105.here hx rfl (hb hby dj20_57) rfl rfl ?_
      show SP pg ev below (T105.setTop (mkF mi 58 #[.val (.ref v), .val (.int 0), .val (.int (Int32.ofNat cs.length)), .val (.ref b101), .val (.int (Int32.ofNat cs.length)), .unset] [(.ref b101)])) _
      jvm_step X105.here [X105.here.top, hx, (hb hby dj20_58), X105.method', Bd.returns, Value.isRef, FieldType.isReference]
      first | (intro acts; rw [hr _ acts rfl rfl rfl]) | rw [hr _ _ rfl rfl rfl]
      exact Steps.refl _
    · show Q_cmc Z v kv cs hE n0 _ T105.heap _
      exact ⟨b101, k101, (0 : Int32), (Int32.ofNat cs.length), (cs.map fun c => Value.int (StrChars.lo8 c)), rfl, N105, (((Keep.refl hE []).ext E101).trans Kq105 (allS (Or.inr (Nat.le_of_eq q101.symm)) all0)), (Nat.le_of_eq q101.symm), r105_0, (Or.inl ⟨rfl, rfl, rfl, hq107⟩)⟩
  · have O108 : Old Z n0 T105.heap := (O103.keep Kq105 (allS g_b101 all0))
    have f109 : Arv Z T105.heap v kv .char (Int32.ofNat cs.length) (cs.map Value.int) (.int 0) := (f104.keep Kq105 (ninS ne_v_b101 nin0))
    obtain ⟨v110, _, ⟨T110, L110, k110, n110⟩, -, X110, ⟨Lc110, hQ110, l110, y110, z110⟩, st110⟩ := Jvm.LawKit.callS X105 hx (y := mn17) hown (mvT hZ (wd150 hw)) (mvT hZ (wd151 hw)) (mvT hZ (wd83 hw)) (mvT hZ (wd152 hw)) (by decide) (backOf (W := 0) (rm_tbX la Z a0 hw [] v kv cs T105.heap n0 O108 f109 D0_ D1_ D2_ (h0 : 0 < cs.length) (h4 : cs.length ≤ 4)) hZ (wd152 hw) (wd83 hw) (by decide) (by decide)) (g := (mkF mi 23 #[.val (.ref v), .val (.int 0), .val (.int (Int32.ofNat cs.length)), .val (.ref b101), .val (.int (Int32.ofNat i107)), .unset] [(.int (Int32.ofNat cs.length)), (.int 0), (.ref v)])) rfl (by rw [hml]; rfl) (argsL := [(.ref v), (.int 0), (.int (Int32.ofNat cs.length))]) (rest := []) (lenOf pd_9 rfl) rfl (Nat.le_of_ble_eq_true rfl) (hb hby dj20_23) (fun _ _ => ⟨rfl, rfl, (by decide : 1 + 1 ≤ _), (by decide : 4 + 8 ≤ _)⟩)
    dsimp only [Pt.U, Pt.locs, Pt.cells, Pt.slots] at X110 l110 y110 z110 st110 hQ110
    subst l110 y110 z110
    obtain ⟨t_110, kt_110, rfl, Nq110, Kq110, fr_t_110, r110_0⟩ := hQ110
    have N110 := Fr.app N105 Nq110
    have O111 : Old Z n0 T110.heap := (O108.keep Kq110 all0)
    obtain ⟨v112, _, ⟨T112, L112, k112, n112⟩, -, X112, ⟨Lc112, hQ112, l112, y112, z112⟩, st112⟩ := Jvm.LawKit.callS X110 hx (y := mn0) hown (mvT hZ (wd166 hw)) (mvT hZ (wd167 hw)) (mvT hZ (wd83 hw)) (mvT hZ (wd168 hw)) (by decide) (backOf (W := 0) (rm_gch la Z a0 hw [] t_110 (Int32.ofNat i107) kt_110 cs i107 T110.heap n0 O111 r110_0 D0_ D1_ D2_ (rfl : (Int32.ofNat i107) = Int32.ofNat i107) (hi107 : i107 < cs.length) (by omega : cs.length ≤ 4000) (hbd : ∀ c ∈ cs, ¬ c < 0 ∧ ¬ (65535 : Int32) < c)) hZ (wd168 hw) (wd83 hw) (by decide) (by decide)) (g := (mkF mi 32 #[.val (.ref v), .val (.int 0), .val (.int (Int32.ofNat cs.length)), .val (.ref b101), .val (.int (Int32.ofNat i107)), .val (.ref t_110)] [(.int (Int32.ofNat i107)), (.ref t_110)])) rfl (by rw [hml]; rfl) (argsL := [(.ref t_110), (.int (Int32.ofNat i107))]) (rest := []) (lenOf pd_10 rfl) rfl (Nat.le_of_ble_eq_true rfl) (hb hby dj20_32) (fun _ _ => ⟨rfl, rfl, (by decide : 2 + 0 ≤ _), (by decide : 12 + 0 ≤ _)⟩)
    dsimp only [Pt.U, Pt.locs, Pt.cells, Pt.slots] at X112 l112 y112 z112 st112 hQ112
    subst l112 y112 z112
    obtain ⟨rfl, Nq112, ek112⟩ := hQ112
    have N112 := Fr.app N110 Nq112
    obtain ⟨fs, hr, hrun, hended, hW, hsame⟩ := X112.leave (v := some (.ref t_110)) (fun hq => by rw [Bd.returns] at hq; cases hq)
    refine ⟨_, _, pre106 _ ?_, hrun, hended, _, _, rfl, ?_, ⟨_, rfl⟩, hW, hsame.mono (by decide) (by decide)⟩
    · show SP pg ev below (T105.setTop (mkF mi 12 #[.val (.ref v), .val (.int 0), .val (.int (Int32.ofNat cs.length)), .val (.ref b101), .unset, .unset] [(.int (Int32.ofNat i107))])) _
      refine XS.istore X105.here hx rfl (hb hby dj20_12) rfl (l' := #[.val (.ref v), .val (.int 0), .val (.int (Int32.ofNat cs.length)), .val (.ref b101), .val (.int (Int32.ofNat i107)), .unset]) rfl ?_
      refine XS.iload X105.here hx rfl (hb hby dj20_14) rfl ?_
      refine XS.iloadN X105.here hx rfl (hb hby dj20_16) rfl ?_
      refine XS.icmpNo X105.here hx rfl (hb hby dj20_17) rfl (feq (fun q => absurd ((own_eq8 (by have := hi107; omega) (by omega)).mp q) (by have := hi107; omega))).1 ?_
      refine XS.aloadN X105.here hx rfl (hb hby dj20_20) rfl rfl ?_
      refine XS.iloadN X105.here hx rfl (hb hby dj20_21) rfl ?_
      refine XS.iloadN X105.here hx rfl (hb hby dj20_22) rfl ?_
      refine st110 _ ?_
      refine XS.astore X110.here hx rfl (hb hby dj20_26) rfl rfl (l' := #[.val (.ref v), .val (.int 0), .val (.int (Int32.ofNat cs.length)), .val (.ref b101), .val (.int (Int32.ofNat i107)), .val (.ref t_110)]) rfl ?_
      refine XS.aload X110.here hx rfl (hb hby dj20_28) rfl rfl ?_
      refine XS.iload X110.here hx rfl (hb hby dj20_30) rfl ?_
      refine st112 _ ?_
      refine XS.sipush X112.here hx rfl (hb hby dj20_35) ?_
      refine XS.icmpYes X112.here hx rfl (pc0 := 38) (pc' := 54) rfl (hb hby dj20_38) rfl (tlt hq107).2.2.1 (by decide) (by decide) ?_
      refine XS.aload X112.here hx rfl (hb hby dj20_54) rfl rfl ?_
      show SP pg ev below (T112.setTop (mkF mi 56 #[.val (.ref v), .val (.int 0), .val (.int (Int32.ofNat cs.length)), .val (.ref b101), .val (.int (Int32.ofNat i107)), .val (.ref t_110)] [(.ref t_110)])) _
      jvm_step X112.here [X112.here.top, hx, (hb hby dj20_56), X112.method', Bd.returns, Value.isRef, FieldType.isReference]
      first | (intro acts; rw [hr _ acts rfl rfl rfl]) | rw [hr _ _ rfl rfl rfl]
      exact Steps.refl _
    · show Q_cmc Z v kv cs hE n0 _ T112.heap _
      rw [ek112]
      exact ⟨t_110, kt_110, (1 : Int32), (Int32.ofNat (2 * cs.length)), (StrChars.Road.wideBytes cs), rfl, N112, ((((Keep.refl hE []).ext E101).trans Kq105 (allS (Or.inr (Nat.le_of_eq q101.symm)) all0)).trans Kq110 all0), (Nat.le_trans (Nat.le_trans E101.1 Kq105.1) fr_t_110), r110_0, (Or.inr ⟨rfl, rfl, rfl, ⟨_, own_getD_mem hi107, hq107⟩⟩)⟩
theorem dj4_0 : decode jc4 0 = .ok (.aload_n 0, 1) := by decide +kernel
theorem dj4_1 : decode jc4 1 = .ok (.invokespecial 1, 3) := by decide +kernel
theorem dj4_4 : decode jc4 4 = .ok (.iload_n 3, 1) := by decide +kernel
theorem dj4_5 : decode jc4 5 = .ok (.ifCond .ne 22, 3) := by decide +kernel
theorem dj4_27 : decode jc4 27 = .ok (.getstatic 38, 3) := by decide +kernel
theorem dj4_30 : decode jc4 30 = .ok (.ifCond .eq 28, 3) := by decide +kernel
theorem dj4_33 : decode jc4 33 = .ok (.aload_n 1, 1) := by decide +kernel
theorem dj4_34 : decode jc4 34 = .ok (.iload_n 2, 1) := by decide +kernel
theorem dj4_35 : decode jc4 35 = .ok (.iload_n 3, 1) := by decide +kernel
theorem dj4_36 : decode jc4 36 = .ok (.invokestatic 177, 3) := by decide +kernel
theorem dj4_39 : decode jc4 39 = .ok (.astore 5, 2) := by decide +kernel
theorem dj4_41 : decode jc4 41 = .ok (.aload_n 0, 1) := by decide +kernel
theorem dj4_42 : decode jc4 42 = .ok (.aload 5, 2) := by decide +kernel
theorem dj4_44 : decode jc4 44 = .ok (.iload_n 3, 1) := by decide +kernel
theorem dj4_45 : decode jc4 45 = .ok (.invokestatic 47, 3) := by decide +kernel
theorem dj4_48 : decode jc4 48 = .ok (.putfield 15, 3) := by decide +kernel
theorem dj4_51 : decode jc4 51 = .ok (.aload_n 0, 1) := by decide +kernel
theorem dj4_52 : decode jc4 52 = .ok (.aload 5, 2) := by decide +kernel
theorem dj4_54 : decode jc4 54 = .ok (.putfield 9, 3) := by decide +kernel
theorem dj4_57 : decode jc4 57 = .ok (.return_, 1) := by decide +kernel
theorem pd_11 : parseMethodDescriptor "([BI)B" = some ⟨[(.array .byte), .int], some .byte⟩ := by decide +kernel
theorem ef_siw (mi : MethodId) (x : Addr) (v : Addr) (cs : List Int32) : entryFrame mi #[(.ref x), (.ref v), (.int 0), (.int (Int32.ofNat cs.length)), .null] 6 = mkF mi 0 #[.val (.ref x), .val (.ref v), .val (.int 0), .val (.int (Int32.ofNat cs.length)), .val .null, .unset] [] := rfl
def Q_siw (Z : State) (x v : Addr) (kv : ClassId) (cs : List Int32) (zc : Int32) (hE : Heap) (n0 : Nat) (vv : Option Value) (hh : Heap) (LL : List Loc) : Prop := ∃ t : Addr, (vv = none) ∧ (Fr n0 LL) ∧ (Keep hE hh [x]) ∧ (hE.size ≤ t) ∧ (WStr Z hh x t cs)
theorem rm_siw (hw : HW a0 Z) (ws : List Cond) (x v : Addr) (kv : ClassId) (cs : List Int32) (zc : Int32) (hE : Heap) (n0 : Nat) (O : Old Z n0 hE) (P0_ : Exa Z hE x c0_) (P1_ : Fld Z hE x c0_ "value" "[B" .null) (P2_ : Fld Z hE x c0_ "coder" "B" (.int 0)) (P3_ : Arv Z hE v kv .char (Int32.ofNat cs.length) (cs.map Value.int) (.int 0)) (D0_ : Sta Z Z.heap c0_ c8_ "Z" (.int zc)) (D1_ : Sta Z Z.heap c1_ c6_ "Z" (.int 1)) (D2_ : Sta Z Z.heap c1_ c9_ "I" (.int 0)) (D3_ : Sta Z Z.heap c1_ c10_ "I" (.int 8)) (g_x : n0 ≤ x) (ne_v_x : v ≠ x) (h0 : 0 < cs.length) (h4 : cs.length ≤ 4) (hbd : ∀ c ∈ cs, ¬ c < 0 ∧ ¬ (65535 : Int32) < c) (hzc : ¬ (zc = (0 : Int32))) :
    MF la Z hE mn20 jc4 6 none ws (rr 4 2 12 57) #[(.ref x), (.ref v), (.int 0), (.int (Int32.ofNat cs.length)), .null] (Q_siw Z x v kv cs zc hE n0) := by
  refine MetFree.of_bodySF (plainFor_of_name pn_java_lang_String) hisR ?_
  intro pg ev sb mi gs below me cd s₁ Bd hml0 hPt hKt
  obtain ⟨rfl, hZ, hh⟩ := hPt
  have hx := Bd.exec
  have hby := Bd.bytes
  have hml : cd.maxLocals = 6 := hml0
  have hown : sb.vm.findClass c0_ = some mi.cls := findClass_of_methodNamed Bd.named
  have hnm := (name_of_methodNamed Bd.named Bd.method).1
  have X0 : Stand pg la ev (rr 4 2 12 57) sb mi #[(.ref x), (.ref v), (.int 0), (.int (Int32.ofNat cs.length)), .null] below me cd s₁ [] 0 0 := Stand.of_body Bd
  have eE : s₁.heap = hE := by rw [← hh, Bd.state]; rfl
  have N0 := Fr.nil n0
  have pre0 : ∀ tt, SP pg ev below (s₁.setTop (mkF mi 0 #[.val (.ref x), .val (.ref v), .val (.int 0), .val (.int (Int32.ofNat cs.length)), .val .null, .unset] [])) tt → SP pg ev below (s₁.setTop (entryFrame mi #[(.ref x), (.ref v), (.int 0), (.int (Int32.ofNat cs.length)), .null] 6)) tt := fun tt kk => castTop (ef_siw mi x v cs) kk
  obtain ⟨T101, X101, e101, st101⟩ := initO X0 hx hZ hown (wd19 hw) (wd20 hw) (wd21 hw) eE (g := (mkF mi 1 #[.val (.ref x), .val (.ref v), .val (.int 0), .val (.int (Int32.ofNat cs.length)), .val .null, .unset] [(.ref x)])) rfl (by rw [hml]; rfl) rfl (hb hby dj4_1) (by decide) (W := 0) (Nat.le_of_ble_eq_true rfl) (by decide)
  obtain ⟨T102, X102, e102, st102⟩ := getS2 X101 hx hZ hown (host := "") (Or.inl (wd49 hw)) Via.refl e101 (D0_.ext O.2) (g := (mkF mi 27 #[.val (.ref x), .val (.ref v), .val (.int 0), .val (.int (Int32.ofNat cs.length)), .val .null, .unset] [])) rfl (hb hby dj4_27)
  obtain ⟨v103, _, ⟨T103, L103, k103, n103⟩, -, X103, ⟨Lc103, hQ103, l103, y103, z103⟩, st103⟩ := Jvm.LawKit.callS X102 hx (y := mn19) hown (mvT hZ (wd81 hw)) (mvT hZ (wd82 hw)) (mvT hZ (wd83 hw)) (mvT hZ (wd84 hw)) (by decide) (backOf (W := 0) (rm_cmc la Z a0 hw [] v kv cs hE n0 O P3_ D1_ D2_ D3_ (h0 : 0 < cs.length) (h4 : cs.length ≤ 4) (hbd : ∀ c ∈ cs, ¬ c < 0 ∧ ¬ (65535 : Int32) < c)) hZ (wd84 hw) (wd83 hw) (by decide) (by decide)) (g := (mkF mi 36 #[.val (.ref x), .val (.ref v), .val (.int 0), .val (.int (Int32.ofNat cs.length)), .val .null, .unset] [(.int (Int32.ofNat cs.length)), (.int 0), (.ref v)])) rfl (by rw [hml]; rfl) (argsL := [(.ref v), (.int 0), (.int (Int32.ofNat cs.length))]) (rest := []) (lenOf pd_9 rfl) rfl (Nat.le_of_ble_eq_true rfl) (hb hby dj4_36) (fun _ _ => ⟨rfl, e102, (by decide : 0 + 2 ≤ _), (by decide : 0 + 12 ≤ _)⟩)
  dsimp only [Pt.U, Pt.locs, Pt.cells, Pt.slots] at X103 l103 y103 z103 st103 hQ103
  subst l103 y103 z103
  obtain ⟨t_103, kt_103, cd_103, N2_103, vs_103, rfl, Nq103, Kq103, fr_t_103, r103_0, ph103_cod⟩ := hQ103
  have N103 := Fr.app N0 Nq103
  have O104 : Old Z n0 T103.heap := (O.keep Kq103 all0)
  obtain ⟨v105, _, ⟨T105, L105, k105, n105⟩, -, X105, ⟨Lc105, hQ105, l105, y105, z105⟩, st105⟩ := Jvm.LawKit.callS X103 hx (y := mn14) hown (mvT hZ (wd88 hw)) (mvT hZ (wd89 hw)) (mvT hZ (wd83 hw)) (mvT hZ (wd90 hw)) (by decide) (backOf (W := 1) (rm_cfw la Z a0 hw [] t_103 (Int32.ofNat cs.length) kt_103 N2_103 vs_103 cd_103 cs T103.heap n0 O104 r103_0 (rfl : (Int32.ofNat cs.length) = Int32.ofNat cs.length) (h0 : 0 < cs.length) (h4 : cs.length ≤ 4) (ph103_cod : StrChars.Road.CodA cs cd_103 N2_103 vs_103)) hZ (wd90 hw) (wd83 hw) (by decide) (by decide)) (g := (mkF mi 45 #[.val (.ref x), .val (.ref v), .val (.int 0), .val (.int (Int32.ofNat cs.length)), .val .null, .val (.ref t_103)] [(.int (Int32.ofNat cs.length)), (.ref t_103), (.ref x)])) rfl (by rw [hml]; rfl) (argsL := [(.ref t_103), (.int (Int32.ofNat cs.length))]) (rest := [(.ref x)]) (lenOf pd_11 rfl) rfl (Nat.le_of_ble_eq_true rfl) (hb hby dj4_45) (fun _ _ => ⟨rfl, rfl, (by decide : 2 + 0 ≤ _), (by decide : 12 + 0 ≤ _)⟩)
  dsimp only [Pt.U, Pt.locs, Pt.cells, Pt.slots] at X105 l105 y105 z105 st105 hQ105
  subst l105 y105 z105
  obtain ⟨rfl, Nq105, ek105⟩ := hQ105
  have N105 := Fr.app N103 Nq105
  have f106 : Exa Z T103.heap x c0_ := (P0_.keep Kq103)
  have f107 : Fld Z T103.heap x c0_ "coder" "B" (.int 0) := (P2_.keep Kq103 nin0)
  obtain ⟨T108, h108, X108, e108, W108, st108⟩ := putFN X105 hx hZ hown (wd29 hw) Via.refl ek105 f107 f106 (Or.inr ⟨(wd25 hw), rfl, hnm⟩) (wd10 hw) (ty := .byte) (v' := (.int cd_103.toInt8.toInt32)) (by decide) rfl (fits_nar_byte _) (g := (mkF mi 48 #[.val (.ref x), .val (.ref v), .val (.int 0), .val (.int (Int32.ofNat cs.length)), .val .null, .val (.ref t_103)] [(.int cd_103), (.ref x)])) rfl rfl (hb hby dj4_48)
  have N108 := Fr.snoc X108 N105 g_x
  have f109 : Fld Z h108 x c0_ "coder" "B" (.int cd_103.toInt8.toInt32) := f107.same W108
  have f110 : Exa Z h108 x c0_ := (f106.keep (Keep.of_wr W108))
  have f111 : Fld Z h108 x c0_ "value" "[B" .null := ((P1_.keep Kq103 nin0).other W108 (Or.inr (slot_ne (Or.inr (wd24 hw)) (Or.inr (wd25 hw)) (by decide) (t := (.array .byte)) (t' := .byte) (by decide) (by decide))))
  obtain ⟨T112, h112, X112, e112, W112, st112⟩ := putF X108 hx hZ hown (host := "") (Or.inl (wd28 hw)) Via.refl e108 f111 f110 (Or.inr ⟨(wd24 hw), rfl, hnm⟩) (wd10 hw) (ty := (.array .byte)) (by decide) rfl rfl (g := (mkF mi 54 #[.val (.ref x), .val (.ref v), .val (.int 0), .val (.int (Int32.ofNat cs.length)), .val .null, .val (.ref t_103)] [(.ref t_103), (.ref x)])) rfl rfl (hb hby dj4_54)
  have N112 := Fr.snoc X112 N108 g_x
  have f113 : Fld Z h112 x c0_ "value" "[B" (.ref t_103) := f111.same W112
  have f114 : Exa Z h112 x c0_ := (f110.keep (Keep.of_wr W112))
  have f115 : Fld Z h112 x c0_ "coder" "B" (.int cd_103.toInt8.toInt32) := (f109.other W112 (Or.inr (slot_ne (Or.inr (wd25 hw)) (Or.inr (wd24 hw)) (by decide) (t := .byte) (t' := (.array .byte)) (by decide) (by decide))))
  have ne_x_t_103 : x ≠ t_103 := Nat.ne_of_lt (Nat.lt_of_lt_of_le P0_.lt (Nat.le_trans (Nat.le_refl _) fr_t_103))
  have f116 : Arv Z h112 t_103 kt_103 .byte N2_103 vs_103 (.int 0) := ((r103_0.keep (Keep.of_wr W108) (ninS (Ne.symm ne_x_t_103) nin0)).keep (Keep.of_wr W112) (ninS (Ne.symm ne_x_t_103) nin0))
  have s117 : WStr Z h112 x t_103 cs := ⟨f114, f113, ⟨cd_103, _, _, _, (by have q := f115; rw [own_cd8 ph103_cod] at q; exact q), f116, ph103_cod⟩, hbd, (by omega)⟩
  obtain ⟨fs, hr, hrun, hended, hW, hsame⟩ := X112.leave (v := none) (fun _ => rfl)
  refine ⟨_, _, pre0 _ ?_, hrun, hended, _, _, rfl, ?_, ⟨_, rfl⟩, hW, hsame.mono (by decide) (by decide)⟩
  · show SP pg ev below (s₁.setTop (mkF mi 0 #[.val (.ref x), .val (.ref v), .val (.int 0), .val (.int (Int32.ofNat cs.length)), .val .null, .unset] [])) _
    refine XS.aloadN X0.here hx rfl (hb hby dj4_0) rfl rfl ?_
    refine st101 _ ?_
    refine XS.iloadN X101.here hx rfl (hb hby dj4_4) rfl ?_
    refine XS.ifYes X101.here hx rfl (pc0 := 5) (pc' := 27) rfl (hb hby dj4_5) rfl ((if0 _ _).trans (feq (fun q => absurd ((own_eq8 (a := cs.length) (b := 0) (by omega) (by omega)).mp q) (by omega))).2) (by decide) (by decide) ?_
    refine st102 _ ?_
    refine XS.ifNo X102.here hx rfl (hb hby dj4_30) rfl ((if0 _ _).trans (feq hzc).1) ?_
    refine XS.aloadN X102.here hx rfl (hb hby dj4_33) rfl rfl ?_
    refine XS.iloadN X102.here hx rfl (hb hby dj4_34) rfl ?_
    refine XS.iloadN X102.here hx rfl (hb hby dj4_35) rfl ?_
    refine st103 _ ?_
    refine XS.astore X103.here hx rfl (hb hby dj4_39) rfl rfl (l' := #[.val (.ref x), .val (.ref v), .val (.int 0), .val (.int (Int32.ofNat cs.length)), .val .null, .val (.ref t_103)]) rfl ?_
    refine XS.aloadN X103.here hx rfl (hb hby dj4_41) rfl rfl ?_
    refine XS.aload X103.here hx rfl (hb hby dj4_42) rfl rfl ?_
    refine XS.iloadN X103.here hx rfl (hb hby dj4_44) rfl ?_
    refine st105 _ ?_
    refine st108 _ ?_
    refine XS.aloadN X108.here hx rfl (hb hby dj4_51) rfl rfl ?_
    refine XS.aload X108.here hx rfl (hb hby dj4_52) rfl rfl ?_
    refine st112 _ ?_
    show SP pg ev below (T112.setTop (mkF mi 57 #[.val (.ref x), .val (.ref v), .val (.int 0), .val (.int (Int32.ofNat cs.length)), .val .null, .val (.ref t_103)] [])) _
    exact X112.returnOut hx Bd.returns (hb hby dj4_57) hr
  · show Q_siw Z x v kv cs zc hE n0 _ T112.heap _
    rw [e112]
    exact ⟨t_103, rfl, N112, ((((Keep.refl hE [x]).trans Kq103 all0).trans (Keep.of_wr W108) (allS (Or.inl (List.mem_of_getElem? (i := 0) rfl)) all0)).trans (Keep.of_wr W112) (allS (Or.inl (List.mem_of_getElem? (i := 0) rfl)) all0)), fr_t_103, s117⟩
theorem dj44_0 : decode jc44 0 = .ok (.aload_n 0, 1) := by decide +kernel
theorem dj44_1 : decode jc44 1 = .ok (.aload_n 1, 1) := by decide +kernel
theorem dj44_2 : decode jc44 2 = .ok (.iconst 0, 1) := by decide +kernel
theorem dj44_3 : decode jc44 3 = .ok (.aload_n 1, 1) := by decide +kernel
theorem dj44_4 : decode jc44 4 = .ok (.arraylength, 1) := by decide +kernel
theorem dj44_5 : decode jc44 5 = .ok (.aconst_null, 1) := by decide +kernel
theorem dj44_6 : decode jc44 6 = .ok (.invokespecial 27, 3) := by decide +kernel
theorem dj44_9 : decode jc44 9 = .ok (.return_, 1) := by decide +kernel
theorem pd_12 : parseMethodDescriptor "([CIILjava/lang/Void;)V" = some ⟨[(.array .char), .int, .int, (.object "java/lang/Void")], none⟩ := by decide +kernel
theorem ef_sid (mi : MethodId) (x : Addr) (v : Addr) : entryFrame mi #[(.ref x), (.ref v)] 2 = mkF mi 0 #[.val (.ref x), .val (.ref v)] [] := rfl
def Q_sid (Z : State) (x v : Addr) (kv : ClassId) (cs : List Int32) (zc : Int32) (hE : Heap) (n0 : Nat) (vv : Option Value) (hh : Heap) (LL : List Loc) : Prop := ∃ t : Addr, (vv = none) ∧ (Fr n0 LL) ∧ (Keep hE hh [x]) ∧ (hE.size ≤ t) ∧ (WStr Z hh x t cs)
theorem rm_sid (hw : HW a0 Z) (ws : List Cond) (x v : Addr) (kv : ClassId) (cs : List Int32) (zc : Int32) (hE : Heap) (n0 : Nat) (O : Old Z n0 hE) (P0_ : Exa Z hE x c0_) (P1_ : Fld Z hE x c0_ "value" "[B" .null) (P2_ : Fld Z hE x c0_ "coder" "B" (.int 0)) (P3_ : Arv Z hE v kv .char (Int32.ofNat cs.length) (cs.map Value.int) (.int 0)) (D0_ : Sta Z Z.heap c0_ c8_ "Z" (.int zc)) (D1_ : Sta Z Z.heap c1_ c6_ "Z" (.int 1)) (D2_ : Sta Z Z.heap c1_ c9_ "I" (.int 0)) (D3_ : Sta Z Z.heap c1_ c10_ "I" (.int 8)) (g_x : n0 ≤ x) (ne_v_x : v ≠ x) (h0 : 0 < cs.length) (h4 : cs.length ≤ 4) (hbd : ∀ c ∈ cs, ¬ c < 0 ∧ ¬ (65535 : Int32) < c) (hzc : ¬ (zc = (0 : Int32))) :
    MF la Z hE mn21 jc44 2 none ws (rr 5 2 12 74) #[(.ref x), (.ref v)] (Q_sid Z x v kv cs zc hE n0) := by
  refine MetFree.of_bodySF (plainFor_of_name pn_java_lang_String) hisR ?_
  intro pg ev sb mi gs below me cd s₁ Bd hml0 hPt hKt
  obtain ⟨rfl, hZ, hh⟩ := hPt
  have hx := Bd.exec
  have hby := Bd.bytes
  have hml : cd.maxLocals = 2 := hml0
  have hown : sb.vm.findClass c0_ = some mi.cls := findClass_of_methodNamed Bd.named
  have X0 : Stand pg la ev (rr 5 2 12 74) sb mi #[(.ref x), (.ref v)] below me cd s₁ [] 0 0 := Stand.of_body Bd
  have eE : s₁.heap = hE := by rw [← hh, Bd.state]; rfl
  have N0 := Fr.nil n0
  have pre0 : ∀ tt, SP pg ev below (s₁.setTop (mkF mi 0 #[.val (.ref x), .val (.ref v)] [])) tt → SP pg ev below (s₁.setTop (entryFrame mi #[(.ref x), (.ref v)] 2)) tt := fun tt kk => castTop (ef_sid mi x v) kk
  obtain ⟨cl101, Ar101, -, Sz101, Nn101, -, -⟩ := id P3_
  obtain ⟨v102, _, ⟨T102, L102, k102, n102⟩, -, X102, ⟨Lc102, hQ102, l102, y102, z102⟩, st102⟩ := X0.specialBack hx (y := mn20) rfl hown (mvT hZ (wd15 hw)) (mvT hZ (wd16 hw)) (mvT hZ (wd18 hw)) (by decide) (backOf (W := 0) (rm_siw la Z a0 hw [] x v kv cs zc hE n0 O P0_ P1_ P2_ P3_ D0_ D1_ D2_ D3_ g_x ne_v_x (h0 : 0 < cs.length) (h4 : cs.length ≤ 4) (hbd : ∀ c ∈ cs, ¬ c < 0 ∧ ¬ (65535 : Int32) < c) (hzc : ¬ (zc = (0 : Int32)))) hZ (wd18 hw) (wd11 hw) (by decide) (by decide)) (g := (mkF mi 6 #[.val (.ref x), .val (.ref v)] [.null, (.int (Int32.ofNat cs.length)), (.int 0), (.ref v), (.ref x)])) rfl (by rw [hml]; rfl) (Steps.refl _) (a := x) (argsL := [(.ref v), (.int 0), (.int (Int32.ofNat cs.length)), .null]) (rest := []) (lenOf pd_12 rfl) rfl (Nat.le_of_ble_eq_true rfl) (hb hby dj44_6) (fun _ _ => ⟨rfl, eE, (by decide : 0 + 2 ≤ _), (by decide : 0 + 12 ≤ _)⟩)
  dsimp only [Pt.U, Pt.locs, Pt.cells, Pt.slots] at X102 l102 y102 z102 st102 hQ102
  subst l102 y102 z102
  obtain ⟨t_102, rfl, Nq102, Kq102, fr_t_102, r102_0⟩ := hQ102
  have N102 := Fr.app N0 Nq102
  obtain ⟨fs, hr, hrun, hended, hW, hsame⟩ := X102.leave (v := none) (fun _ => rfl)
  refine ⟨_, _, pre0 _ ?_, hrun, hended, _, _, rfl, ?_, ⟨_, rfl⟩, hW, hsame.mono (by decide) (by decide)⟩
  · show SP pg ev below (s₁.setTop (mkF mi 0 #[.val (.ref x), .val (.ref v)] [])) _
    refine XS.aloadN X0.here hx rfl (hb hby dj44_0) rfl rfl ?_
    refine XS.aloadN X0.here hx rfl (hb hby dj44_1) rfl rfl ?_
    refine XS.iconst X0.here hx rfl (hb hby dj44_2) ?_
    refine XS.aloadN X0.here hx rfl (hb hby dj44_3) rfl rfl ?_
    refine X0.arraylength hx (cell := cl101) (by rw [eE]; exact Ar101.1) (State.isArrayOf_alike hZ.alike Ar101.2.1) (g := (mkF mi 4 #[.val (.ref x), .val (.ref v)] [(.ref v), (.int 0), (.ref v), (.ref x)])) rfl (rest := [(.int 0), (.ref v), (.ref x)]) rfl (hb hby dj44_4) _ ?_
    rw [len_of Sz101 Nn101]
    refine XS.aconstNull X0.here hx rfl (hb hby dj44_5) ?_
    refine st102.trans ?_
    show SP pg ev below (T102.setTop (mkF mi 9 #[.val (.ref x), .val (.ref v)] [])) _
    exact X102.returnOut hx Bd.returns (hb hby dj44_9) hr
  · show Q_sid Z x v kv cs zc hE n0 _ T102.heap _
    exact ⟨t_102, rfl, N102, ((Keep.refl hE [x]).trans Kq102 (allS (Or.inl (List.mem_of_getElem? (i := 0) rfl)) all0)), fr_t_102, r102_0⟩
theorem dj4_8 : decode jc4 8 = .ok (.aload_n 0, 1) := by decide +kernel
theorem dj4_9 : decode jc4 9 = .ok (.ldc 7, 2) := by decide +kernel
theorem dj4_11 : decode jc4 11 = .ok (.getfield 9, 3) := by decide +kernel
theorem dj4_14 : decode jc4 14 = .ok (.putfield 9, 3) := by decide +kernel
theorem dj4_17 : decode jc4 17 = .ok (.aload_n 0, 1) := by decide +kernel
theorem dj4_18 : decode jc4 18 = .ok (.ldc 7, 2) := by decide +kernel
theorem dj4_20 : decode jc4 20 = .ok (.getfield 15, 3) := by decide +kernel
theorem dj4_23 : decode jc4 23 = .ok (.putfield 15, 3) := by decide +kernel
theorem dj4_26 : decode jc4 26 = .ok (.return_, 1) := by decide +kernel
theorem ef_siw0 (mi : MethodId) (x : Addr) (v : Addr) : entryFrame mi #[(.ref x), (.ref v), (.int 0), (.int 0), .null] 6 = mkF mi 0 #[.val (.ref x), .val (.ref v), .val (.int 0), .val (.int 0), .val .null, .unset] [] := rfl
def Q_siw0 (Z : State) (x v : Addr) (kv : ClassId) (hE : Heap) (n0 : Nat) (vv : Option Value) (hh : Heap) (LL : List Loc) : Prop := ∃ t : Addr, (vv = none) ∧ (Fr n0 LL) ∧ (Keep hE hh [x]) ∧ (WStr Z hh x t ([] : List Int32))
theorem rm_siw0 (hw : HW a0 Z) (ws : List Cond) (x v : Addr) (kv : ClassId) (hE : Heap) (n0 : Nat) (O : Old Z n0 hE) (P0_ : Exa Z hE x c0_) (P1_ : Fld Z hE x c0_ "value" "[B" .null) (P2_ : Fld Z hE x c0_ "coder" "B" (.int 0)) (P3_ : Arv Z hE v kv .char (0 : Int32) [] (.int 0)) (g_x : n0 ≤ x) :
    MW la Z hE mn20 jc4 6 none ws (rr 1 4 8 12) #[(.ref x), (.ref v), (.int 0), (.int 0), .null] (Q_siw0 Z x v kv hE n0) := by
  refine MetFree.of_bodySF (plainFor_of_name pn_java_lang_String) hisR ?_
  intro pg ev sb mi gs below me cd s₁ Bd hml0 hPt hKt
  obtain ⟨rfl, hZ, hh, hH⟩ := hPt
  have hx := Bd.exec
  have hby := Bd.bytes
  have hml : cd.maxLocals = 6 := hml0
  have hown : sb.vm.findClass c0_ = some mi.cls := findClass_of_methodNamed Bd.named
  have hnm := (name_of_methodNamed Bd.named Bd.method).1
  have X0 : Stand pg la ev (rr 1 4 8 12) (sb.setVm sb.vm) mi #[(.ref x), (.ref v), (.int 0), (.int 0), .null] below me cd s₁ [] 0 0 := Stand.of_body Bd
  have eE : s₁.heap = hE := by rw [← hh, Bd.state]; rfl
  have N0 := Fr.nil n0
  have pre0 : ∀ tt, SP pg ev below (s₁.setTop (mkF mi 0 #[.val (.ref x), .val (.ref v), .val (.int 0), .val (.int 0), .val .null, .unset] [])) tt → SP pg ev below (s₁.setTop (entryFrame mi #[(.ref x), (.ref v), (.int 0), (.int 0), .null] 6)) tt := fun tt kk => castTop (ef_siw0 mi x v) kk
  have hS : sb.Since sb.vm 0 := (State.WarmedH.refl sb).since 0
  have hk : 0 ≤ hE.size := Nat.zero_le _
  have hEL := own_EW hw
  have C0 := CHr.refl hH
  obtain ⟨T101, X101, e101, st101⟩ := initO X0 hx hZ hown (wd19 hw) (wd20 hw) (wd21 hw) eE (g := (mkF mi 1 #[.val (.ref x), .val (.ref v), .val (.int 0), .val (.int 0), .val .null, .unset] [(.ref x)])) rfl (by rw [hml]; rfl) rfl (hb hby dj4_1) (by decide) (W := 0) (Nat.le_of_ble_eq_true rfl) (by decide)
  obtain ⟨a102, T102, h102, k102, d102, kc102, X102, e102, E102, hS, hk, hZ, hown, lE102, lC102, lV102, lA102, -, -, c102, -, hne102, st102⟩ := ldcCH X101 hx hZ hown (wd22 hw) (own_wS hw) e101 hS hk hEL (by decide +kernel) C0.1 (vs := ([] : List Int32).map fun c => Value.int c.toInt8.toInt32) (z := Int32.ofNat ([] : List Int32).length) (by decide +kernel) (by decide) (by decide) (g := (mkF mi 9 #[.val (.ref x), .val (.ref v), .val (.int 0), .val (.int 0), .val .null, .unset] [(.ref x)])) rfl (hb hby dj4_9) (n := 0) (by decide) (by decide) (by decide) (by decide)
  have C103 := CHr.trans C0 c102
  have s104 : LStr Z h102 a102 d102 ([] : List Int32) := ⟨lE102, lV102, lC102, ⟨_, lA102⟩, (by decide), (by decide)⟩
  obtain ⟨sE105, sV105, sC105, ⟨kb105, sK105⟩, sb105, sl105⟩ := id s104
  have sK105' : Arv Z h102 d102 kb105 .byte (0 : Int32) [] (.int 0) := sK105
  obtain ⟨T106, X106, e106, st106⟩ := getF X102 hx hZ hown (host := "") (Or.inl (wd28 hw)) Via.refl e102 sV105 (g := (mkF mi 11 #[.val (.ref x), .val (.ref v), .val (.int 0), .val (.int 0), .val .null, .unset] [(.ref a102), (.ref x)])) rfl rfl (hb hby dj4_11)
  have f107 : Exa Z h102 x c0_ := (P0_.ext E102)
  have f108 : Fld Z h102 x c0_ "value" "[B" .null := (P1_.ext E102)
  obtain ⟨T109, h109, X109, e109, W109, st109⟩ := putF X106 hx hZ hown (host := "") (Or.inl (wd28 hw)) Via.refl e106 f108 f107 (Or.inr ⟨(wd24 hw), rfl, hnm⟩) (wd10 hw) (ty := (.array .byte)) (by decide) rfl rfl (g := (mkF mi 14 #[.val (.ref x), .val (.ref v), .val (.int 0), .val (.int 0), .val .null, .unset] [(.ref d102), (.ref x)])) rfl rfl (hb hby dj4_14)
  have N109 := Fr.snoc X109 N0 g_x
  have f110 : Arv Z h102 v kv .char (0 : Int32) [] (.int 0) := (P3_.ext E102)
  have ne_x_v : x ≠ v := Exa.neArv f107 f110 (wd10 hw)
  have ne_x_d102 : x ≠ d102 := Exa.neArv f107 sK105' (wd10 hw)
  have sf112 : Safe Z ELs _ h102 x := own_safe_raw hZ.alike f107 f108
  have c111 := CHr.keep (Keep.of_wr W109) (sfS sf112 sf0) C103.1
  have C113 := CHr.trans C103 c111
  have f114 : Fld Z h109 x c0_ "value" "[B" (.ref d102) := f108.same W109
  obtain ⟨a115, T115, h115, k115, d115, kc115, X115, e115, E115, hS, hk, hZ, hown, lE115, lC115, lV115, lA115, -, -, c115, -, hne115, st115⟩ := ldcCH X109 hx hZ hown (wd22 hw) (own_wS hw) e109 hS (Nat.le_trans hk (Keep.of_wr W109).1) hEL (by decide +kernel) C113.1 (vs := ([] : List Int32).map fun c => Value.int c.toInt8.toInt32) (z := Int32.ofNat ([] : List Int32).length) (by decide +kernel) (by decide) (by decide) (g := (mkF mi 18 #[.val (.ref x), .val (.ref v), .val (.int 0), .val (.int 0), .val .null, .unset] [(.ref x)])) rfl (hb hby dj4_18) (n := 0) (by decide) (by decide) (by decide) (by decide)
  have C116 := CHr.trans C113 c115
  have s117 : LStr Z h115 a115 d115 ([] : List Int32) := ⟨lE115, lV115, lC115, ⟨_, lA115⟩, (by decide), (by decide)⟩
  obtain ⟨sE118, sV118, sC118, ⟨kb118, sK118⟩, sb118, sl118⟩ := id s117
  have sK118' : Arv Z h115 d115 kb118 .byte (0 : Int32) [] (.int 0) := sK118
  obtain ⟨T119, X119, e119, st119⟩ := getF X115 hx hZ hown (host := "") (Or.inl (wd29 hw)) Via.refl e115 sC118 (g := (mkF mi 20 #[.val (.ref x), .val (.ref v), .val (.int 0), .val (.int 0), .val .null, .unset] [(.ref a115), (.ref x)])) rfl rfl (hb hby dj4_20)
  have f120 : Exa Z h115 x c0_ := ((f107.keep (Keep.of_wr W109)).ext E115)
  have f121 : Fld Z h115 x c0_ "coder" "B" (.int 0) := (((P2_.ext E102).other W109 (Or.inr (slot_ne (Or.inr (wd25 hw)) (Or.inr (wd24 hw)) (by decide) (t := .byte) (t' := (.array .byte)) (by decide) (by decide)))).ext E115)
  obtain ⟨T122, h122, X122, e122, W122, st122⟩ := putFN X119 hx hZ hown (wd29 hw) Via.refl e119 f121 f120 (Or.inr ⟨(wd25 hw), rfl, hnm⟩) (wd10 hw) (ty := .byte) (v' := (.int 0)) (by decide) rfl rfl (g := (mkF mi 23 #[.val (.ref x), .val (.ref v), .val (.int 0), .val (.int 0), .val .null, .unset] [(.int 0), (.ref x)])) rfl rfl (hb hby dj4_23)
  have N122 := Fr.snoc X122 N109 g_x
  have ne_x_d115 : x ≠ d115 := Exa.neArv f120 sK118' (wd10 hw)
  have sf124 : Safe Z ELs _ h115 x := (c115.safe (Nat.lt_of_lt_of_le P0_.lt (Nat.le_trans E102.1 (Keep.of_wr W109).1)) (c111.safe (Nat.lt_of_lt_of_le P0_.lt E102.1) sf112))
  have c123 := CHr.keep (Keep.of_wr W122) (sfS sf124 sf0) C116.1
  have C125 := CHr.trans C116 c123
  have f126 : Fld Z h122 x c0_ "coder" "B" (.int 0) := f121.same W122
  have f127 : Exa Z h122 x c0_ := (f120.keep (Keep.of_wr W122))
  have f128 : Fld Z h122 x c0_ "value" "[B" (.ref d102) := ((f114.ext E115).other W122 (Or.inr (slot_ne (Or.inr (wd24 hw)) (Or.inr (wd25 hw)) (by decide) (t := (.array .byte)) (t' := .byte) (by decide) (by decide))))
  have f129 : Arv Z h122 d102 kb105 .byte (0 : Int32) [] (.int 0) := (((sK105'.keep (Keep.of_wr W109) (ninS (Ne.symm ne_x_d102) nin0)).ext E115).keep (Keep.of_wr W122) (ninS (Ne.symm ne_x_d102) nin0))
  have s130 : WStr Z h122 x d102 ([] : List Int32) := ⟨f127, f128, ⟨_, _, _, _, f126, f129, Or.inl ⟨rfl, rfl, rfl, (fun _ h => nomatch h)⟩⟩, (fun _ h => nomatch h), (Nat.zero_le _)⟩
  obtain ⟨fs, hr, hrun, hended, hWe⟩ := X122.leaveW hS (show _ ≤ T122.heap.size by rw [e122]; exact (Nat.le_trans hk (Keep.of_wr W122).1)) (v := none) (fun _ => rfl)
  refine ⟨_, _, pre0 _ ?_, hrun, hended, _, _, rfl, ?_, ?_, hWe.1, hWe.2.1, hWe.2.2.1, hWe.2.2.2.mono (by decide) (by decide)⟩
  · show SP pg ev below (s₁.setTop (mkF mi 0 #[.val (.ref x), .val (.ref v), .val (.int 0), .val (.int 0), .val .null, .unset] [])) _
    refine XS.aloadN X0.here hx rfl (hb hby dj4_0) rfl rfl ?_
    refine st101 _ ?_
    refine XS.iloadN X101.here hx rfl (hb hby dj4_4) rfl ?_
    refine XS.ifNo X101.here hx rfl (hb hby dj4_5) rfl ((if0 _ _).trans (teq (rfl : (0 : Int32) = (0 : Int32))).2) ?_
    refine XS.aloadN X101.here hx rfl (hb hby dj4_8) rfl rfl ?_
    refine st102 _ ?_
    refine st106 _ ?_
    refine st109 _ ?_
    refine XS.aloadN X109.here hx rfl (hb hby dj4_17) rfl rfl ?_
    refine st115 _ ?_
    refine st119 _ ?_
    refine st122 _ ?_
    show SP pg ev below (T122.setTop (mkF mi 26 #[.val (.ref x), .val (.ref v), .val (.int 0), .val (.int 0), .val .null, .unset] [])) _
    exact X122.returnOut hx Bd.returns (hb hby dj4_26) hr
  · show Q_siw0 Z x v kv hE n0 _ T122.heap _
    rw [e122]
    exact ⟨d102, rfl, N122, (((((Keep.refl hE [x]).ext E102).trans (Keep.of_wr W109) (allS (Or.inl (List.mem_of_getElem? (i := 0) rfl)) all0)).ext E115).trans (Keep.of_wr W122) (allS (Or.inl (List.mem_of_getElem? (i := 0) rfl)) all0)), s130⟩
  · show CHr Z ELs sb.vm sb.heap T122.vm T122.heap
    rw [hh, e122]
    exact CHr.trans C125 (CHv.at X122 hZ hEL C125.1)
theorem ef_sid0 (mi : MethodId) (x : Addr) (v : Addr) : entryFrame mi #[(.ref x), (.ref v)] 2 = mkF mi 0 #[.val (.ref x), .val (.ref v)] [] := rfl
def Q_sid0 (Z : State) (x v : Addr) (kv : ClassId) (hE : Heap) (n0 : Nat) (vv : Option Value) (hh : Heap) (LL : List Loc) : Prop := ∃ t : Addr, (vv = none) ∧ (Fr n0 LL) ∧ (Keep hE hh [x]) ∧ (WStr Z hh x t ([] : List Int32))
theorem rm_sid0 (hw : HW a0 Z) (ws : List Cond) (x v : Addr) (kv : ClassId) (hE : Heap) (n0 : Nat) (O : Old Z n0 hE) (P0_ : Exa Z hE x c0_) (P1_ : Fld Z hE x c0_ "value" "[B" .null) (P2_ : Fld Z hE x c0_ "coder" "B" (.int 0)) (P3_ : Arv Z hE v kv .char (0 : Int32) [] (.int 0)) (g_x : n0 ≤ x) :
    MW la Z hE mn21 jc44 2 none ws (rr 2 4 8 29) #[(.ref x), (.ref v)] (Q_sid0 Z x v kv hE n0) := by
  refine MetFree.of_bodySF (plainFor_of_name pn_java_lang_String) hisR ?_
  intro pg ev sb mi gs below me cd s₁ Bd hml0 hPt hKt
  obtain ⟨rfl, hZ, hh, hH⟩ := hPt
  have hx := Bd.exec
  have hby := Bd.bytes
  have hml : cd.maxLocals = 2 := hml0
  have hown : sb.vm.findClass c0_ = some mi.cls := findClass_of_methodNamed Bd.named
  have X0 : Stand pg la ev (rr 2 4 8 29) (sb.setVm sb.vm) mi #[(.ref x), (.ref v)] below me cd s₁ [] 0 0 := Stand.of_body Bd
  have eE : s₁.heap = hE := by rw [← hh, Bd.state]; rfl
  have N0 := Fr.nil n0
  have pre0 : ∀ tt, SP pg ev below (s₁.setTop (mkF mi 0 #[.val (.ref x), .val (.ref v)] [])) tt → SP pg ev below (s₁.setTop (entryFrame mi #[(.ref x), (.ref v)] 2)) tt := fun tt kk => castTop (ef_sid0 mi x v) kk
  have hS : sb.Since sb.vm 0 := (State.WarmedH.refl sb).since 0
  have hk : 0 ≤ hE.size := Nat.zero_le _
  have hEL := own_EW hw
  have C0 := CHr.refl hH
  obtain ⟨cl101, Ar101, -, Sz101, Nn101, -, -⟩ := id P3_
  have pre103 : ∀ tt, SP pg ev below (s₁.setTop (mkF mi 6 #[.val (.ref x), .val (.ref v)] [.null, (.int 0), (.int 0), (.ref v), (.ref x)])) tt → SP pg ev below (s₁.setTop (entryFrame mi #[(.ref x), (.ref v)] 2)) tt := fun tt kk => pre0 _ (by
    show SP pg ev below (s₁.setTop (mkF mi 0 #[.val (.ref x), .val (.ref v)] [])) _
    refine XS.aloadN X0.here hx rfl (hb hby dj44_0) rfl rfl ?_
    refine XS.aloadN X0.here hx rfl (hb hby dj44_1) rfl rfl ?_
    refine XS.iconst X0.here hx rfl (hb hby dj44_2) ?_
    refine XS.aloadN X0.here hx rfl (hb hby dj44_3) rfl rfl ?_
    refine X0.arraylength hx (cell := cl101) (by rw [eE]; exact Ar101.1) (State.isArrayOf_alike hZ.alike Ar101.2.1) (g := (mkF mi 4 #[.val (.ref x), .val (.ref v)] [(.ref v), (.int 0), (.ref v), (.ref x)])) rfl (rest := [(.int 0), (.ref v), (.ref x)]) rfl (hb hby dj44_4) _ ?_
    rw [len_of Sz101 Nn101]
    refine XS.aconstNull X0.here hx rfl (hb hby dj44_5) ?_
    exact kk)
  obtain ⟨v102, _, ⟨T102, L102, k102, n102⟩, -, X102, s102, gr102, ⟨Lc102, hQ102, l102, y102, z102, c102⟩, st102⟩ := X0.specialBackS hx (y := mn20) rfl hown (mvT hZ (wd15 hw)) (mvT hZ (wd16 hw)) (mvT hZ (wd18 hw)) (by decide) (backOfSH (W := 0) (rm_siw0 la Z a0 hw [] x v kv hE n0 O P0_ P1_ P2_ P3_ g_x) hZ (wd18 hw) (wd11 hw) (by decide) (by decide) hEL C0.1) (g := (mkF mi 6 #[.val (.ref x), .val (.ref v)] [.null, (.int 0), (.int 0), (.ref v), (.ref x)])) rfl (by rw [hml]; rfl) (Steps.refl _) (a := x) (argsL := [(.ref v), (.int 0), (.int 0), .null]) (rest := []) (lenOf pd_12 rfl) rfl (Nat.le_of_ble_eq_true rfl) (hb hby dj44_6) (fun _ _ => ⟨rfl, eE, (by decide : 0 + 4 ≤ _), (by decide : 0 + 8 ≤ _)⟩)
  dsimp only [Pt.U, Pt.locs, Pt.cells, Pt.slots] at X102 s102 gr102 l102 y102 z102 c102 st102 hQ102
  subst l102 y102 z102
  obtain ⟨X102, hS, hZ, hown⟩ := rebS hS (show _ ≤ s₁.heap.size by rw [eE]; exact hk) X102 s102 gr102 hZ hown
  have hk : T102.heap.size ≤ T102.heap.size := Nat.le_refl _
  obtain ⟨t_102, rfl, Nq102, Kq102, r102_0⟩ := hQ102
  have N102 := Fr.app N0 Nq102
  have ne_x_v : x ≠ v := Exa.neArv P0_ P3_ (wd10 hw)
  have C104 := CHr.trans C0 c102
  obtain ⟨fs, hr, hrun, hended, hWe⟩ := X102.leaveW hS (show _ ≤ T102.heap.size from hk) (v := none) (fun _ => rfl)
  refine ⟨_, _, pre103 _ ?_, hrun, hended, _, _, rfl, ?_, ?_, hWe.1, hWe.2.1, hWe.2.2.1, hWe.2.2.2.mono (by decide) (by decide)⟩
  · show SP pg ev below (s₁.setTop (mkF mi 6 #[.val (.ref x), .val (.ref v)] [.null, (.int 0), (.int 0), (.ref v), (.ref x)])) _
    refine st102.trans ?_
    show SP pg ev below (T102.setTop (mkF mi 9 #[.val (.ref x), .val (.ref v)] [])) _
    exact X102.returnOut hx Bd.returns (hb hby dj44_9) hr
  · show Q_sid0 Z x v kv hE n0 _ T102.heap _
    exact ⟨t_102, rfl, N102, ((Keep.refl hE [x]).trans Kq102 (allS (Or.inl (List.mem_of_getElem? (i := 0) rfl)) all0)), r102_0⟩
  · show CHr Z ELs sb.vm sb.heap T102.vm T102.heap
    rw [hh]
    exact CHr.trans C104 (CHv.at X102 hZ hEL C104.1)
theorem dj45_0 : decode jc45 0 = .ok (.iload_n 0, 1) := by decide +kernel
theorem dj45_1 : decode jc45 1 = .ok (.ifCond .lt 14, 3) := by decide +kernel
theorem dj45_4 : decode jc45 4 = .ok (.iload_n 0, 1) := by decide +kernel
theorem dj45_5 : decode jc45 5 = .ok (.sipush 255, 3) := by decide +kernel
theorem dj45_8 : decode jc45 8 = .ok (.if_icmp .gt 7, 3) := by decide +kernel
theorem dj45_11 : decode jc45 11 = .ok (.iconst 1, 1) := by decide +kernel
theorem dj45_12 : decode jc45 12 = .ok (.goto 4, 3) := by decide +kernel
theorem dj45_16 : decode jc45 16 = .ok (.ireturn, 1) := by decide +kernel
theorem pn_java_lang_StringLatin1 : plainName "java/lang/StringLatin1" = true := by first | (simp [plainName, overriddenIn]; done) | decide +kernel
theorem ef_cen (mi : MethodId)  : entryFrame mi #[(.int 35)] 1 = mkF mi 0 #[.val (.int 35)] [] := rfl
def Q_cen (Z : State)  (hE : Heap) (n0 : Nat) (vv : Option Value) (hh : Heap) (LL : List Loc) : Prop := (vv = some (.int 1)) ∧ (Fr n0 LL) ∧ (hh = hE)
theorem rm_cen (hw : HW a0 Z) (ws : List Cond)  (hE : Heap) (n0 : Nat) (O : Old Z n0 hE) :
    MF la Z hE mn22 jc45 1 (some .boolean) ws (rr 0 0 0 0) #[(.int 35)] (Q_cen Z  hE n0) := by
  refine MetFree.of_bodySF (plainFor_of_name pn_java_lang_StringLatin1) hisR ?_
  intro pg ev sb mi gs below me cd s₁ Bd hml0 hPt hKt
  obtain ⟨rfl, hZ, hh⟩ := hPt
  have hx := Bd.exec
  have hby := Bd.bytes
  have hml : cd.maxLocals = 1 := hml0
  have hown : sb.vm.findClass c5_ = some mi.cls := findClass_of_methodNamed Bd.named
  have X0 : Stand pg la ev (rr 0 0 0 0) sb mi #[(.int 35)] below me cd s₁ [] 0 0 := Stand.of_body Bd
  have eE : s₁.heap = hE := by rw [← hh, Bd.state]; rfl
  have N0 := Fr.nil n0
  have pre0 : ∀ tt, SP pg ev below (s₁.setTop (mkF mi 0 #[.val (.int 35)] [])) tt → SP pg ev below (s₁.setTop (entryFrame mi #[(.int 35)] 1)) tt := fun tt kk => castTop (ef_cen mi ) kk
  obtain ⟨fs, hr, hrun, hended, hW, hsame⟩ := X0.leave (v := some (.int 1)) (fun hq => by rw [Bd.returns] at hq; cases hq)
  refine ⟨_, _, pre0 _ ?_, hrun, hended, _, _, rfl, ?_, ⟨_, rfl⟩, hW, hsame.mono (by decide) (by decide)⟩
  · show SP pg ev below (s₁.setTop (mkF mi 0 #[.val (.int 35)] [])) _
    refine XS.iloadN X0.here hx rfl (hb hby dj45_0) rfl ?_
    refine XS.ifNo X0.here hx rfl (hb hby dj45_1) rfl ((if0 _ _).trans (flt (by decide : ¬ ((35 : Int32) < (0 : Int32)))).1) ?_
    refine XS.iloadN X0.here hx rfl (hb hby dj45_4) rfl ?_
    refine XS.sipush X0.here hx rfl (hb hby dj45_5) ?_
    refine XS.icmpNo X0.here hx rfl (hb hby dj45_8) rfl (flt (by decide : ¬ ((255 : Int32) < (35 : Int32)))).2.2.1 ?_
    refine XS.iconst X0.here hx rfl (hb hby dj45_11) ?_
    refine XS.goto X0.here hx rfl (pc0 := 12) (pc' := 16) rfl (hb hby dj45_12) (by decide) (by decide) ?_
    show SP pg ev below (s₁.setTop (mkF mi 16 #[.val (.int 35)] [(.int 1)])) _
    exact retN X0 hx (t := .boolean) Bd.returns (by simp) (hb hby dj45_16) hr
  · show Q_cen Z  hE n0 _ s₁.heap _
    rw [eE]
    exact ⟨rfl, N0, rfl⟩
theorem dj21_0 : decode jc21 0 = .ok (.iload_n 1, 1) := by decide +kernel
theorem dj21_1 : decode jc21 1 = .ok (.i2b, 1) := by decide +kernel
theorem dj21_2 : decode jc21 2 = .ok (.istore 4, 2) := by decide +kernel
theorem dj21_4 : decode jc21 4 = .ok (.iload_n 2, 1) := by decide +kernel
theorem dj21_5 : decode jc21 5 = .ok (.istore 5, 2) := by decide +kernel
theorem dj21_7 : decode jc21 7 = .ok (.iload 5, 2) := by decide +kernel
theorem dj21_9 : decode jc21 9 = .ok (.iload_n 3, 1) := by decide +kernel
theorem dj21_10 : decode jc21 10 = .ok (.if_icmp .ge 21, 3) := by decide +kernel
theorem dj21_13 : decode jc21 13 = .ok (.aload_n 0, 1) := by decide +kernel
theorem dj21_14 : decode jc21 14 = .ok (.iload 5, 2) := by decide +kernel
theorem dj21_16 : decode jc21 16 = .ok (.baload, 1) := by decide +kernel
theorem dj21_17 : decode jc21 17 = .ok (.iload 4, 2) := by decide +kernel
theorem dj21_19 : decode jc21 19 = .ok (.if_icmp .ne 6, 3) := by decide +kernel
theorem dj21_22 : decode jc21 22 = .ok (.iload 5, 2) := by decide +kernel
theorem dj21_24 : decode jc21 24 = .ok (.ireturn, 1) := by decide +kernel
theorem dj21_25 : decode jc21 25 = .ok (.iinc 5 1, 3) := by decide +kernel
theorem dj21_28 : decode jc21 28 = .ok (.goto (-21), 3) := by decide +kernel
theorem dj21_31 : decode jc21 31 = .ok (.iconst (-1), 1) := by decide +kernel
theorem dj21_32 : decode jc21 32 = .ok (.ireturn, 1) := by decide +kernel
theorem ef_licX (mi : MethodId) (t : Addr) (cs : List Int32) : entryFrame mi #[(.ref t), (.int 35), (.int 0), (.int (Int32.ofNat cs.length))] 6 = mkF mi 0 #[.val (.ref t), .val (.int 35), .val (.int 0), .val (.int (Int32.ofNat cs.length)), .unset, .unset] [] := rfl
def Q_licX (Z : State) (t : Addr) (kt : ClassId) (cs : List Int32) (hE : Heap) (n0 : Nat) (vv : Option Value) (hh : Heap) (LL : List Loc) : Prop := (vv = some (.int (ixG 0 cs))) ∧ (Fr n0 LL) ∧ (hh = hE)
theorem rm_licX (hw : HW a0 Z) (ws : List Cond) (t : Addr) (kt : ClassId) (cs : List Int32) (hE : Heap) (n0 : Nat) (O : Old Z n0 hE) (P0_ : Arv Z hE t kt .byte (Int32.ofNat cs.length) (cs.map fun c => Value.int (StrChars.lo8 c)) (.int 0)) (h0 : 0 < cs.length) (h4 : cs.length ≤ 4) (hbl : ∀ c ∈ cs, ¬ c < 0 ∧ ¬ (255 : Int32) < c) :
    MF la Z hE mn23 jc21 6 (some .int) ws (rr 0 0 0 0) #[(.ref t), (.int 35), (.int 0), (.int (Int32.ofNat cs.length))] (Q_licX Z t kt cs hE n0) := by
  refine MetFree.of_bodySF (plainFor_of_name pn_java_lang_StringLatin1) hisR ?_
  intro pg ev sb mi gs below me cd s₁ Bd hml0 hPt hKt
  obtain ⟨rfl, hZ, hh⟩ := hPt
  have hx := Bd.exec
  have hby := Bd.bytes
  have hml : cd.maxLocals = 6 := hml0
  have hown : sb.vm.findClass c5_ = some mi.cls := findClass_of_methodNamed Bd.named
  have X0 : Stand pg la ev (rr 0 0 0 0) sb mi #[(.ref t), (.int 35), (.int 0), (.int (Int32.ofNat cs.length))] below me cd s₁ [] 0 0 := Stand.of_body Bd
  have eE : s₁.heap = hE := by rw [← hh, Bd.state]; rfl
  have N0 := Fr.nil n0
  have pre0 : ∀ tt, SP pg ev below (s₁.setTop (mkF mi 0 #[.val (.ref t), .val (.int 35), .val (.int 0), .val (.int (Int32.ofNat cs.length)), .unset, .unset] [])) tt → SP pg ev below (s₁.setTop (entryFrame mi #[(.ref t), (.int 35), (.int 0), (.int (Int32.ofNat cs.length))] 6)) tt := fun tt kk => castTop (ef_licX mi t cs) kk
  have pre101 : ∀ tt, SP pg ev below (s₁.setTop (mkF mi 2 #[.val (.ref t), .val (.int 35), .val (.int 0), .val (.int (Int32.ofNat cs.length)), .unset, .unset] [(.int ((35 : Int32).toInt8.toInt32))])) tt → SP pg ev below (s₁.setTop (entryFrame mi #[(.ref t), (.int 35), (.int 0), (.int (Int32.ofNat cs.length))] 6)) tt := fun tt kk => pre0 _ (by
    show SP pg ev below (s₁.setTop (mkF mi 0 #[.val (.ref t), .val (.int 35), .val (.int 0), .val (.int (Int32.ofNat cs.length)), .unset, .unset] [])) _
    refine XS.iloadN X0.here hx rfl (hb hby dj21_0) rfl ?_
    refine XS.i2b X0.here hx rfl (hb hby dj21_1) rfl ?_
    exact kk)
  have pre102 : ∀ tt, SP pg ev below (s₁.setTop (mkF mi 2 #[.val (.ref t), .val (.int 35), .val (.int 0), .val (.int (Int32.ofNat cs.length)), .unset, .unset] [(.int 35)])) tt → SP pg ev below (s₁.setTop (entryFrame mi #[(.ref t), (.int 35), (.int 0), (.int (Int32.ofNat cs.length))] 6)) tt := fun tt kk => pre101 tt (by rw [show ((35 : Int32).toInt8.toInt32) = (35 : Int32) from by decide]; exact kk)
  obtain ⟨cl103, Ar103, -, Sz103, Nn103, Hh103, -⟩ := id P0_
  have hin103 : ¬ ((0 : Int32) < 0 ∨ cl103.slots.size ≤ ((0 : Int32)).toNatClampNeg) := inb_of Sz103 (own_w0 (n := 0) (m := cs.length) (by omega) (by omega))
  have hat103 : cl103.slots[((0 : Int32)).toNatClampNeg]? = some (.int (StrChars.lo8 (cs.getD 0 0))) := Hh103.at hin103 (StrChars.Road.low_at _ cs 0 (by omega))
  have pre105 : ∀ tt, SP pg ev below (s₁.setTop (mkF mi 19 #[.val (.ref t), .val (.int 35), .val (.int 0), .val (.int (Int32.ofNat cs.length)), .val (.int 35), .val (.int 0)] [(.int 35), (.int (StrChars.lo8 (cs.getD 0 0)))])) tt → SP pg ev below (s₁.setTop (entryFrame mi #[(.ref t), (.int 35), (.int 0), (.int (Int32.ofNat cs.length))] 6)) tt := fun tt kk => pre102 _ (by
    show SP pg ev below (s₁.setTop (mkF mi 2 #[.val (.ref t), .val (.int 35), .val (.int 0), .val (.int (Int32.ofNat cs.length)), .unset, .unset] [(.int 35)])) _
    refine XS.istore X0.here hx rfl (hb hby dj21_2) rfl (l' := #[.val (.ref t), .val (.int 35), .val (.int 0), .val (.int (Int32.ofNat cs.length)), .val (.int 35), .unset]) rfl ?_
    refine XS.iloadN X0.here hx rfl (hb hby dj21_4) rfl ?_
    refine XS.istore X0.here hx rfl (hb hby dj21_5) rfl (l' := #[.val (.ref t), .val (.int 35), .val (.int 0), .val (.int (Int32.ofNat cs.length)), .val (.int 35), .val (.int 0)]) rfl ?_
    refine XS.iload X0.here hx rfl (hb hby dj21_7) rfl ?_
    refine XS.iloadN X0.here hx rfl (hb hby dj21_9) rfl ?_
    refine XS.icmpNo X0.here hx rfl (hb hby dj21_10) rfl (tlt ((own_lt8 (a := 0) (b := cs.length) (by omega) (by omega)).mpr (by omega))).2.1 ?_
    refine XS.aloadN X0.here hx rfl (hb hby dj21_13) rfl rfl ?_
    refine XS.iload X0.here hx rfl (hb hby dj21_14) rfl ?_
    refine X0.baloadBytes hx (j := (0 : Int32)) (v := (.int (StrChars.lo8 (cs.getD 0 0)))) (by rw [eE]; exact Ar103.1) (State.isArrayOf_alike hZ.alike Ar103.2.1) Ar103.2.2 hin103 hat103 (g := (mkF mi 16 #[.val (.ref t), .val (.int 35), .val (.int 0), .val (.int (Int32.ofNat cs.length)), .val (.int 35), .val (.int 0)] [(.int 0), (.ref t)])) rfl rfl (hb hby dj21_16) _ ?_
    refine XS.iload X0.here hx rfl (hb hby dj21_17) rfl ?_
    exact kk)
  by_cases hc104 : (StrChars.lo8 (cs.getD 0 0)) = (35 : Int32)
  · obtain ⟨fs, hr, hrun, hended, hW, hsame⟩ := X0.leave (v := some (.int 0)) (fun hq => by rw [Bd.returns] at hq; cases hq)
    refine ⟨_, _, pre105 _ ?_, hrun, hended, _, _, rfl, ?_, ⟨_, rfl⟩, hW, hsame.mono (by decide) (by decide)⟩
    · show SP pg ev below (s₁.setTop (mkF mi 19 #[.val (.ref t), .val (.int 35), .val (.int 0), .val (.int (Int32.ofNat cs.length)), .val (.int 35), .val (.int 0)] [(.int 35), (.int (StrChars.lo8 (cs.getD 0 0)))])) _
      refine XS.icmpNo X0.here hx rfl (hb hby dj21_19) rfl (teq hc104).2 ?_
      refine XS.iload X0.here hx rfl (hb hby dj21_22) rfl ?_
      show SP pg ev below (s₁.setTop (mkF mi 24 #[.val (.ref t), .val (.int 35), .val (.int 0), .val (.int (Int32.ofNat cs.length)), .val (.int 35), .val (.int 0)] [(.int 0)])) _
      exact retI X0 hx Bd.returns (hb hby dj21_24) hr
    · show Q_licX Z t kt cs hE n0 _ s₁.heap _
      rw [eE]
      exact ⟨(congrArg (fun z => some (Value.int z)) (own_ix_hit0 cs 0 (by omega) own_lt0 ((own_l35 (hbl _ (own_getD_mem (i := 0) (by omega)))).mp hc104)).symm), N0, rfl⟩
  · have pre107 : ∀ tt, SP pg ev below (s₁.setTop (mkF mi 10 #[.val (.ref t), .val (.int 35), .val (.int 0), .val (.int (Int32.ofNat cs.length)), .val (.int 35), .val (.int 1)] [(.int (Int32.ofNat cs.length)), (.int 1)])) tt → SP pg ev below (s₁.setTop (entryFrame mi #[(.ref t), (.int 35), (.int 0), (.int (Int32.ofNat cs.length))] 6)) tt := fun tt kk => pre105 _ (by
      show SP pg ev below (s₁.setTop (mkF mi 19 #[.val (.ref t), .val (.int 35), .val (.int 0), .val (.int (Int32.ofNat cs.length)), .val (.int 35), .val (.int 0)] [(.int 35), (.int (StrChars.lo8 (cs.getD 0 0)))])) _
      refine XS.icmpYes X0.here hx rfl (pc0 := 19) (pc' := 25) rfl (hb hby dj21_19) rfl (feq hc104).2 (by decide) (by decide) ?_
      refine XS.iinc X0.here hx rfl (hb hby dj21_25) rfl (l' := #[.val (.ref t), .val (.int 35), .val (.int 0), .val (.int (Int32.ofNat cs.length)), .val (.int 35), .val (.int 1)]) rfl ?_
      refine XS.goto X0.here hx rfl (pc0 := 28) (pc' := 7) rfl (hb hby dj21_28) (by decide) (by decide) ?_
      refine XS.iload X0.here hx rfl (hb hby dj21_7) rfl ?_
      refine XS.iloadN X0.here hx rfl (hb hby dj21_9) rfl ?_
      exact kk)
    by_cases hc106 : (1 : Int32) < (Int32.ofNat cs.length)
    · have hk_108 : 1 < cs.length := ((own_lt8 (a := 1) (b := cs.length) (by omega) (by omega)).mp hc106)
      obtain ⟨cl109, Ar109, -, Sz109, Nn109, Hh109, -⟩ := id P0_
      have hin109 : ¬ ((1 : Int32) < 0 ∨ cl109.slots.size ≤ ((1 : Int32)).toNatClampNeg) := inb_of Sz109 (own_w0 (n := 1) (m := cs.length) (by omega) (by omega))
      have hat109 : cl109.slots[((1 : Int32)).toNatClampNeg]? = some (.int (StrChars.lo8 (cs.getD 1 0))) := Hh109.at hin109 (StrChars.Road.low_at _ cs 1 (by omega))
      have pre111 : ∀ tt, SP pg ev below (s₁.setTop (mkF mi 19 #[.val (.ref t), .val (.int 35), .val (.int 0), .val (.int (Int32.ofNat cs.length)), .val (.int 35), .val (.int 1)] [(.int 35), (.int (StrChars.lo8 (cs.getD 1 0)))])) tt → SP pg ev below (s₁.setTop (entryFrame mi #[(.ref t), (.int 35), (.int 0), (.int (Int32.ofNat cs.length))] 6)) tt := fun tt kk => pre107 _ (by
        show SP pg ev below (s₁.setTop (mkF mi 10 #[.val (.ref t), .val (.int 35), .val (.int 0), .val (.int (Int32.ofNat cs.length)), .val (.int 35), .val (.int 1)] [(.int (Int32.ofNat cs.length)), (.int 1)])) _
        refine XS.icmpNo X0.here hx rfl (hb hby dj21_10) rfl (tlt hc106).2.1 ?_
        refine XS.aloadN X0.here hx rfl (hb hby dj21_13) rfl rfl ?_
        refine XS.iload X0.here hx rfl (hb hby dj21_14) rfl ?_
        refine X0.baloadBytes hx (j := (1 : Int32)) (v := (.int (StrChars.lo8 (cs.getD 1 0)))) (by rw [eE]; exact Ar109.1) (State.isArrayOf_alike hZ.alike Ar109.2.1) Ar109.2.2 hin109 hat109 (g := (mkF mi 16 #[.val (.ref t), .val (.int 35), .val (.int 0), .val (.int (Int32.ofNat cs.length)), .val (.int 35), .val (.int 1)] [(.int 1), (.ref t)])) rfl rfl (hb hby dj21_16) _ ?_
        refine XS.iload X0.here hx rfl (hb hby dj21_17) rfl ?_
        exact kk)
      by_cases hc110 : (StrChars.lo8 (cs.getD 1 0)) = (35 : Int32)
      · obtain ⟨fs, hr, hrun, hended, hW, hsame⟩ := X0.leave (v := some (.int 1)) (fun hq => by rw [Bd.returns] at hq; cases hq)
        refine ⟨_, _, pre111 _ ?_, hrun, hended, _, _, rfl, ?_, ⟨_, rfl⟩, hW, hsame.mono (by decide) (by decide)⟩
        · show SP pg ev below (s₁.setTop (mkF mi 19 #[.val (.ref t), .val (.int 35), .val (.int 0), .val (.int (Int32.ofNat cs.length)), .val (.int 35), .val (.int 1)] [(.int 35), (.int (StrChars.lo8 (cs.getD 1 0)))])) _
          refine XS.icmpNo X0.here hx rfl (hb hby dj21_19) rfl (teq hc110).2 ?_
          refine XS.iload X0.here hx rfl (hb hby dj21_22) rfl ?_
          show SP pg ev below (s₁.setTop (mkF mi 24 #[.val (.ref t), .val (.int 35), .val (.int 0), .val (.int (Int32.ofNat cs.length)), .val (.int 35), .val (.int 1)] [(.int 1)])) _
          exact retI X0 hx Bd.returns (hb hby dj21_24) hr
        · show Q_licX Z t kt cs hE n0 _ s₁.heap _
          rw [eE]
          exact ⟨(congrArg (fun z => some (Value.int z)) (own_ix_hit0 cs 1 (by omega) (own_ltS own_lt0 (fun q => hc104 ((own_l35 (hbl _ (own_getD_mem (i := 0) (by omega)))).mpr q))) ((own_l35 (hbl _ (own_getD_mem (i := 1) (by omega)))).mp hc110)).symm), N0, rfl⟩
      · have pre113 : ∀ tt, SP pg ev below (s₁.setTop (mkF mi 10 #[.val (.ref t), .val (.int 35), .val (.int 0), .val (.int (Int32.ofNat cs.length)), .val (.int 35), .val (.int 2)] [(.int (Int32.ofNat cs.length)), (.int 2)])) tt → SP pg ev below (s₁.setTop (entryFrame mi #[(.ref t), (.int 35), (.int 0), (.int (Int32.ofNat cs.length))] 6)) tt := fun tt kk => pre111 _ (by
          show SP pg ev below (s₁.setTop (mkF mi 19 #[.val (.ref t), .val (.int 35), .val (.int 0), .val (.int (Int32.ofNat cs.length)), .val (.int 35), .val (.int 1)] [(.int 35), (.int (StrChars.lo8 (cs.getD 1 0)))])) _
          refine XS.icmpYes X0.here hx rfl (pc0 := 19) (pc' := 25) rfl (hb hby dj21_19) rfl (feq hc110).2 (by decide) (by decide) ?_
          refine XS.iinc X0.here hx rfl (hb hby dj21_25) rfl (l' := #[.val (.ref t), .val (.int 35), .val (.int 0), .val (.int (Int32.ofNat cs.length)), .val (.int 35), .val (.int 2)]) rfl ?_
          refine XS.goto X0.here hx rfl (pc0 := 28) (pc' := 7) rfl (hb hby dj21_28) (by decide) (by decide) ?_
          refine XS.iload X0.here hx rfl (hb hby dj21_7) rfl ?_
          refine XS.iloadN X0.here hx rfl (hb hby dj21_9) rfl ?_
          exact kk)
        by_cases hc112 : (2 : Int32) < (Int32.ofNat cs.length)
        · have hk_114 : 2 < cs.length := ((own_lt8 (a := 2) (b := cs.length) (by omega) (by omega)).mp hc112)
          obtain ⟨cl115, Ar115, -, Sz115, Nn115, Hh115, -⟩ := id P0_
          have hin115 : ¬ ((2 : Int32) < 0 ∨ cl115.slots.size ≤ ((2 : Int32)).toNatClampNeg) := inb_of Sz115 (own_w0 (n := 2) (m := cs.length) (by omega) (by omega))
          have hat115 : cl115.slots[((2 : Int32)).toNatClampNeg]? = some (.int (StrChars.lo8 (cs.getD 2 0))) := Hh115.at hin115 (StrChars.Road.low_at _ cs 2 (by omega))
          have pre117 : ∀ tt, SP pg ev below (s₁.setTop (mkF mi 19 #[.val (.ref t), .val (.int 35), .val (.int 0), .val (.int (Int32.ofNat cs.length)), .val (.int 35), .val (.int 2)] [(.int 35), (.int (StrChars.lo8 (cs.getD 2 0)))])) tt → SP pg ev below (s₁.setTop (entryFrame mi #[(.ref t), (.int 35), (.int 0), (.int (Int32.ofNat cs.length))] 6)) tt := fun tt kk => pre113 _ (by
            show SP pg ev below (s₁.setTop (mkF mi 10 #[.val (.ref t), .val (.int 35), .val (.int 0), .val (.int (Int32.ofNat cs.length)), .val (.int 35), .val (.int 2)] [(.int (Int32.ofNat cs.length)), (.int 2)])) _
            refine XS.icmpNo X0.here hx rfl (hb hby dj21_10) rfl (tlt hc112).2.1 ?_
            refine XS.aloadN X0.here hx rfl (hb hby dj21_13) rfl rfl ?_
            refine XS.iload X0.here hx rfl (hb hby dj21_14) rfl ?_
            refine X0.baloadBytes hx (j := (2 : Int32)) (v := (.int (StrChars.lo8 (cs.getD 2 0)))) (by rw [eE]; exact Ar115.1) (State.isArrayOf_alike hZ.alike Ar115.2.1) Ar115.2.2 hin115 hat115 (g := (mkF mi 16 #[.val (.ref t), .val (.int 35), .val (.int 0), .val (.int (Int32.ofNat cs.length)), .val (.int 35), .val (.int 2)] [(.int 2), (.ref t)])) rfl rfl (hb hby dj21_16) _ ?_
            refine XS.iload X0.here hx rfl (hb hby dj21_17) rfl ?_
            exact kk)
          by_cases hc116 : (StrChars.lo8 (cs.getD 2 0)) = (35 : Int32)
          · obtain ⟨fs, hr, hrun, hended, hW, hsame⟩ := X0.leave (v := some (.int 2)) (fun hq => by rw [Bd.returns] at hq; cases hq)
            refine ⟨_, _, pre117 _ ?_, hrun, hended, _, _, rfl, ?_, ⟨_, rfl⟩, hW, hsame.mono (by decide) (by decide)⟩
            · show SP pg ev below (s₁.setTop (mkF mi 19 #[.val (.ref t), .val (.int 35), .val (.int 0), .val (.int (Int32.ofNat cs.length)), .val (.int 35), .val (.int 2)] [(.int 35), (.int (StrChars.lo8 (cs.getD 2 0)))])) _
              refine XS.icmpNo X0.here hx rfl (hb hby dj21_19) rfl (teq hc116).2 ?_
              refine XS.iload X0.here hx rfl (hb hby dj21_22) rfl ?_
              show SP pg ev below (s₁.setTop (mkF mi 24 #[.val (.ref t), .val (.int 35), .val (.int 0), .val (.int (Int32.ofNat cs.length)), .val (.int 35), .val (.int 2)] [(.int 2)])) _
              exact retI X0 hx Bd.returns (hb hby dj21_24) hr
            · show Q_licX Z t kt cs hE n0 _ s₁.heap _
              rw [eE]
              exact ⟨(congrArg (fun z => some (Value.int z)) (own_ix_hit0 cs 2 (by omega) (own_ltS (own_ltS own_lt0 (fun q => hc104 ((own_l35 (hbl _ (own_getD_mem (i := 0) (by omega)))).mpr q))) (fun q => hc110 ((own_l35 (hbl _ (own_getD_mem (i := 1) (by omega)))).mpr q))) ((own_l35 (hbl _ (own_getD_mem (i := 2) (by omega)))).mp hc116)).symm), N0, rfl⟩
          · have pre119 : ∀ tt, SP pg ev below (s₁.setTop (mkF mi 10 #[.val (.ref t), .val (.int 35), .val (.int 0), .val (.int (Int32.ofNat cs.length)), .val (.int 35), .val (.int 3)] [(.int (Int32.ofNat cs.length)), (.int 3)])) tt → SP pg ev below (s₁.setTop (entryFrame mi #[(.ref t), (.int 35), (.int 0), (.int (Int32.ofNat cs.length))] 6)) tt := fun tt kk => pre117 _ (by
              show SP pg ev below (s₁.setTop (mkF mi 19 #[.val (.ref t), .val (.int 35), .val (.int 0), .val (.int (Int32.ofNat cs.length)), .val (.int 35), .val (.int 2)] [(.int 35), (.int (StrChars.lo8 (cs.getD 2 0)))])) _
              refine XS.icmpYes X0.here hx rfl (pc0 := 19) (pc' := 25) rfl (hb hby dj21_19) rfl (feq hc116).2 (by decide) (by decide) ?_
              refine XS.iinc X0.here hx rfl (hb hby dj21_25) rfl (l' := #[.val (.ref t), .val (.int 35), .val (.int 0), .val (.int (Int32.ofNat cs.length)), .val (.int 35), .val (.int 3)]) rfl ?_
              refine XS.goto X0.here hx rfl (pc0 := 28) (pc' := 7) rfl (hb hby dj21_28) (by decide) (by decide) ?_
              refine XS.iload X0.here hx rfl (hb hby dj21_7) rfl ?_
              refine XS.iloadN X0.here hx rfl (hb hby dj21_9) rfl ?_
              exact kk)
            by_cases hc118 : (3 : Int32) < (Int32.ofNat cs.length)
            · have hk_120 : 3 < cs.length := ((own_lt8 (a := 3) (b := cs.length) (by omega) (by omega)).mp hc118)
              obtain ⟨cl121, Ar121, -, Sz121, Nn121, Hh121, -⟩ := id P0_
              have hin121 : ¬ ((3 : Int32) < 0 ∨ cl121.slots.size ≤ ((3 : Int32)).toNatClampNeg) := inb_of Sz121 (own_w0 (n := 3) (m := cs.length) (by omega) (by omega))
              have hat121 : cl121.slots[((3 : Int32)).toNatClampNeg]? = some (.int (StrChars.lo8 (cs.getD 3 0))) := Hh121.at hin121 (StrChars.Road.low_at _ cs 3 (by omega))
              have pre123 : ∀ tt, SP pg ev below (s₁.setTop (mkF mi 19 #[.val (.ref t), .val (.int 35), .val (.int 0), .val (.int (Int32.ofNat cs.length)), .val (.int 35), .val (.int 3)] [(.int 35), (.int (StrChars.lo8 (cs.getD 3 0)))])) tt → SP pg ev below (s₁.setTop (entryFrame mi #[(.ref t), (.int 35), (.int 0), (.int (Int32.ofNat cs.length))] 6)) tt := fun tt kk => pre119 _ (by
                show SP pg ev below (s₁.setTop (mkF mi 10 #[.val (.ref t), .val (.int 35), .val (.int 0), .val (.int (Int32.ofNat cs.length)), .val (.int 35), .val (.int 3)] [(.int (Int32.ofNat cs.length)), (.int 3)])) _
                refine XS.icmpNo X0.here hx rfl (hb hby dj21_10) rfl (tlt hc118).2.1 ?_
                refine XS.aloadN X0.here hx rfl (hb hby dj21_13) rfl rfl ?_
                refine XS.iload X0.here hx rfl (hb hby dj21_14) rfl ?_
                refine X0.baloadBytes hx (j := (3 : Int32)) (v := (.int (StrChars.lo8 (cs.getD 3 0)))) (by rw [eE]; exact Ar121.1) (State.isArrayOf_alike hZ.alike Ar121.2.1) Ar121.2.2 hin121 hat121 (g := (mkF mi 16 #[.val (.ref t), .val (.int 35), .val (.int 0), .val (.int (Int32.ofNat cs.length)), .val (.int 35), .val (.int 3)] [(.int 3), (.ref t)])) rfl rfl (hb hby dj21_16) _ ?_
                refine XS.iload X0.here hx rfl (hb hby dj21_17) rfl ?_
                exact kk)
              by_cases hc122 : (StrChars.lo8 (cs.getD 3 0)) = (35 : Int32)
              · obtain ⟨fs, hr, hrun, hended, hW, hsame⟩ := X0.leave (v := some (.int 3)) (fun hq => by rw [Bd.returns] at hq; cases hq)
                refine ⟨_, _, pre123 _ ?_, hrun, hended, _, _, rfl, ?_, ⟨_, rfl⟩, hW, hsame.mono (by decide) (by decide)⟩
                · show SP pg ev below (s₁.setTop (mkF mi 19 #[.val (.ref t), .val (.int 35), .val (.int 0), .val (.int (Int32.ofNat cs.length)), .val (.int 35), .val (.int 3)] [(.int 35), (.int (StrChars.lo8 (cs.getD 3 0)))])) _
                  refine XS.icmpNo X0.here hx rfl (hb hby dj21_19) rfl (teq hc122).2 ?_
                  refine XS.iload X0.here hx rfl (hb hby dj21_22) rfl ?_
                  show SP pg ev below (s₁.setTop (mkF mi 24 #[.val (.ref t), .val (.int 35), .val (.int 0), .val (.int (Int32.ofNat cs.length)), .val (.int 35), .val (.int 3)] [(.int 3)])) _
                  exact retI X0 hx Bd.returns (hb hby dj21_24) hr
                · show Q_licX Z t kt cs hE n0 _ s₁.heap _
                  rw [eE]
                  exact ⟨(congrArg (fun z => some (Value.int z)) (own_ix_hit0 cs 3 (by omega) (own_ltS (own_ltS (own_ltS own_lt0 (fun q => hc104 ((own_l35 (hbl _ (own_getD_mem (i := 0) (by omega)))).mpr q))) (fun q => hc110 ((own_l35 (hbl _ (own_getD_mem (i := 1) (by omega)))).mpr q))) (fun q => hc116 ((own_l35 (hbl _ (own_getD_mem (i := 2) (by omega)))).mpr q))) ((own_l35 (hbl _ (own_getD_mem (i := 3) (by omega)))).mp hc122)).symm), N0, rfl⟩
              · obtain ⟨fs, hr, hrun, hended, hW, hsame⟩ := X0.leave (v := some (.int (-1))) (fun hq => by rw [Bd.returns] at hq; cases hq)
                refine ⟨_, _, pre123 _ ?_, hrun, hended, _, _, rfl, ?_, ⟨_, rfl⟩, hW, hsame.mono (by decide) (by decide)⟩
                · show SP pg ev below (s₁.setTop (mkF mi 19 #[.val (.ref t), .val (.int 35), .val (.int 0), .val (.int (Int32.ofNat cs.length)), .val (.int 35), .val (.int 3)] [(.int 35), (.int (StrChars.lo8 (cs.getD 3 0)))])) _
                  refine XS.icmpYes X0.here hx rfl (pc0 := 19) (pc' := 25) rfl (hb hby dj21_19) rfl (feq hc122).2 (by decide) (by decide) ?_
                  refine XS.iinc X0.here hx rfl (hb hby dj21_25) rfl (l' := #[.val (.ref t), .val (.int 35), .val (.int 0), .val (.int (Int32.ofNat cs.length)), .val (.int 35), .val (.int 4)]) rfl ?_
                  refine XS.goto X0.here hx rfl (pc0 := 28) (pc' := 7) rfl (hb hby dj21_28) (by decide) (by decide) ?_
                  refine XS.iload X0.here hx rfl (hb hby dj21_7) rfl ?_
                  refine XS.iloadN X0.here hx rfl (hb hby dj21_9) rfl ?_
                  refine XS.icmpYes X0.here hx rfl (pc0 := 10) (pc' := 31) rfl (hb hby dj21_10) rfl (flt (fun q => absurd ((own_lt8 (a := 4) (b := cs.length) (by omega) (by omega)).mp q) (by omega))).2.1 (by decide) (by decide) ?_
                  refine XS.iconst X0.here hx rfl (hb hby dj21_31) ?_
                  show SP pg ev below (s₁.setTop (mkF mi 32 #[.val (.ref t), .val (.int 35), .val (.int 0), .val (.int (Int32.ofNat cs.length)), .val (.int 35), .val (.int 4)] [(.int (-1))])) _
                  exact retI X0 hx Bd.returns (hb hby dj21_32) hr
                · show Q_licX Z t kt cs hE n0 _ s₁.heap _
                  rw [eE]
                  exact ⟨(congrArg (fun z => some (Value.int z)) (own_ix_out cs 0 (fun j hj => (show ∀ j, j < 4 → ¬ cs.getD j 0 = (35 : Int32) from (own_ltS (own_ltS (own_ltS (own_ltS own_lt0 (fun q => hc104 ((own_l35 (hbl _ (own_getD_mem (i := 0) (by omega)))).mpr q))) (fun q => hc110 ((own_l35 (hbl _ (own_getD_mem (i := 1) (by omega)))).mpr q))) (fun q => hc116 ((own_l35 (hbl _ (own_getD_mem (i := 2) (by omega)))).mpr q))) (fun q => hc122 ((own_l35 (hbl _ (own_getD_mem (i := 3) (by omega)))).mpr q)))) j (by omega))).symm), N0, rfl⟩
            · obtain ⟨fs, hr, hrun, hended, hW, hsame⟩ := X0.leave (v := some (.int (-1))) (fun hq => by rw [Bd.returns] at hq; cases hq)
              refine ⟨_, _, pre119 _ ?_, hrun, hended, _, _, rfl, ?_, ⟨_, rfl⟩, hW, hsame.mono (by decide) (by decide)⟩
              · show SP pg ev below (s₁.setTop (mkF mi 10 #[.val (.ref t), .val (.int 35), .val (.int 0), .val (.int (Int32.ofNat cs.length)), .val (.int 35), .val (.int 3)] [(.int (Int32.ofNat cs.length)), (.int 3)])) _
                refine XS.icmpYes X0.here hx rfl (pc0 := 10) (pc' := 31) rfl (hb hby dj21_10) rfl (flt hc118).2.1 (by decide) (by decide) ?_
                refine XS.iconst X0.here hx rfl (hb hby dj21_31) ?_
                show SP pg ev below (s₁.setTop (mkF mi 32 #[.val (.ref t), .val (.int 35), .val (.int 0), .val (.int (Int32.ofNat cs.length)), .val (.int 35), .val (.int 3)] [(.int (-1))])) _
                exact retI X0 hx Bd.returns (hb hby dj21_32) hr
              · show Q_licX Z t kt cs hE n0 _ s₁.heap _
                rw [eE]
                exact ⟨(congrArg (fun z => some (Value.int z)) (own_ix_out cs 0 (fun j hj => (show ∀ j, j < 3 → ¬ cs.getD j 0 = (35 : Int32) from (own_ltS (own_ltS (own_ltS own_lt0 (fun q => hc104 ((own_l35 (hbl _ (own_getD_mem (i := 0) (by omega)))).mpr q))) (fun q => hc110 ((own_l35 (hbl _ (own_getD_mem (i := 1) (by omega)))).mpr q))) (fun q => hc116 ((own_l35 (hbl _ (own_getD_mem (i := 2) (by omega)))).mpr q)))) j (by have := (show ¬ (3 < cs.length) from fun z => hc118 ((own_lt8 (a := 3) (b := cs.length) (by omega) (by omega)).mpr z)); omega))).symm), N0, rfl⟩
        · obtain ⟨fs, hr, hrun, hended, hW, hsame⟩ := X0.leave (v := some (.int (-1))) (fun hq => by rw [Bd.returns] at hq; cases hq)
          refine ⟨_, _, pre113 _ ?_, hrun, hended, _, _, rfl, ?_, ⟨_, rfl⟩, hW, hsame.mono (by decide) (by decide)⟩
          · show SP pg ev below (s₁.setTop (mkF mi 10 #[.val (.ref t), .val (.int 35), .val (.int 0), .val (.int (Int32.ofNat cs.length)), .val (.int 35), .val (.int 2)] [(.int (Int32.ofNat cs.length)), (.int 2)])) _
            refine XS.icmpYes X0.here hx rfl (pc0 := 10) (pc' := 31) rfl (hb hby dj21_10) rfl (flt hc112).2.1 (by decide) (by decide) ?_
            refine XS.iconst X0.here hx rfl (hb hby dj21_31) ?_
            show SP pg ev below (s₁.setTop (mkF mi 32 #[.val (.ref t), .val (.int 35), .val (.int 0), .val (.int (Int32.ofNat cs.length)), .val (.int 35), .val (.int 2)] [(.int (-1))])) _
            exact retI X0 hx Bd.returns (hb hby dj21_32) hr
          · show Q_licX Z t kt cs hE n0 _ s₁.heap _
            rw [eE]
            exact ⟨(congrArg (fun z => some (Value.int z)) (own_ix_out cs 0 (fun j hj => (show ∀ j, j < 2 → ¬ cs.getD j 0 = (35 : Int32) from (own_ltS (own_ltS own_lt0 (fun q => hc104 ((own_l35 (hbl _ (own_getD_mem (i := 0) (by omega)))).mpr q))) (fun q => hc110 ((own_l35 (hbl _ (own_getD_mem (i := 1) (by omega)))).mpr q)))) j (by have := (show ¬ (2 < cs.length) from fun z => hc112 ((own_lt8 (a := 2) (b := cs.length) (by omega) (by omega)).mpr z)); omega))).symm), N0, rfl⟩
    · obtain ⟨fs, hr, hrun, hended, hW, hsame⟩ := X0.leave (v := some (.int (-1))) (fun hq => by rw [Bd.returns] at hq; cases hq)
      refine ⟨_, _, pre107 _ ?_, hrun, hended, _, _, rfl, ?_, ⟨_, rfl⟩, hW, hsame.mono (by decide) (by decide)⟩
      · show SP pg ev below (s₁.setTop (mkF mi 10 #[.val (.ref t), .val (.int 35), .val (.int 0), .val (.int (Int32.ofNat cs.length)), .val (.int 35), .val (.int 1)] [(.int (Int32.ofNat cs.length)), (.int 1)])) _
        refine XS.icmpYes X0.here hx rfl (pc0 := 10) (pc' := 31) rfl (hb hby dj21_10) rfl (flt hc106).2.1 (by decide) (by decide) ?_
        refine XS.iconst X0.here hx rfl (hb hby dj21_31) ?_
        show SP pg ev below (s₁.setTop (mkF mi 32 #[.val (.ref t), .val (.int 35), .val (.int 0), .val (.int (Int32.ofNat cs.length)), .val (.int 35), .val (.int 1)] [(.int (-1))])) _
        exact retI X0 hx Bd.returns (hb hby dj21_32) hr
      · show Q_licX Z t kt cs hE n0 _ s₁.heap _
        rw [eE]
        exact ⟨(congrArg (fun z => some (Value.int z)) (own_ix_out cs 0 (fun j hj => (show ∀ j, j < 1 → ¬ cs.getD j 0 = (35 : Int32) from (own_ltS own_lt0 (fun q => hc104 ((own_l35 (hbl _ (own_getD_mem (i := 0) (by omega)))).mpr q)))) j (by have := (show ¬ (1 < cs.length) from fun z => hc106 ((own_lt8 (a := 1) (b := cs.length) (by omega) (by omega)).mpr z)); omega))).symm), N0, rfl⟩
theorem dj22_0 : decode jc22 0 = .ok (.iload_n 2, 1) := by decide +kernel
theorem dj22_1 : decode jc22 1 = .ok (.istore 4, 2) := by decide +kernel
theorem dj22_3 : decode jc22 3 = .ok (.iload 4, 2) := by decide +kernel
theorem dj22_5 : decode jc22 5 = .ok (.iload_n 3, 1) := by decide +kernel
theorem dj22_6 : decode jc22 6 = .ok (.if_icmp .ge 22, 3) := by decide +kernel
theorem dj22_9 : decode jc22 9 = .ok (.aload_n 0, 1) := by decide +kernel
theorem dj22_10 : decode jc22 10 = .ok (.iload 4, 2) := by decide +kernel
theorem dj22_12 : decode jc22 12 = .ok (.invokestatic 71, 3) := by decide +kernel
theorem dj22_15 : decode jc22 15 = .ok (.iload_n 1, 1) := by decide +kernel
theorem dj22_16 : decode jc22 16 = .ok (.if_icmp .ne 6, 3) := by decide +kernel
theorem dj22_19 : decode jc22 19 = .ok (.iload 4, 2) := by decide +kernel
theorem dj22_21 : decode jc22 21 = .ok (.ireturn, 1) := by decide +kernel
theorem dj22_22 : decode jc22 22 = .ok (.iinc 4 1, 3) := by decide +kernel
theorem dj22_25 : decode jc22 25 = .ok (.goto (-22), 3) := by decide +kernel
theorem dj22_28 : decode jc22 28 = .ok (.iconst (-1), 1) := by decide +kernel
theorem dj22_29 : decode jc22 29 = .ok (.ireturn, 1) := by decide +kernel
theorem ef_uiuX (mi : MethodId) (t : Addr) (cs : List Int32) : entryFrame mi #[(.ref t), (.int 35), (.int 0), (.int (Int32.ofNat cs.length))] 5 = mkF mi 0 #[.val (.ref t), .val (.int 35), .val (.int 0), .val (.int (Int32.ofNat cs.length)), .unset] [] := rfl
def Q_uiuX (Z : State) (t : Addr) (kt : ClassId) (cs : List Int32) (hE : Heap) (n0 : Nat) (vv : Option Value) (hh : Heap) (LL : List Loc) : Prop := (vv = some (.int (ixG 0 cs))) ∧ (Fr n0 LL) ∧ (hh = hE)
theorem rm_uiuX (hw : HW a0 Z) (ws : List Cond) (t : Addr) (kt : ClassId) (cs : List Int32) (hE : Heap) (n0 : Nat) (O : Old Z n0 hE) (P0_ : Arv Z hE t kt .byte (Int32.ofNat (2 * cs.length)) (StrChars.Road.wideBytes cs) (.int 0)) (D0_ : Sta Z Z.heap c1_ c6_ "Z" (.int 1)) (D1_ : Sta Z Z.heap c1_ c9_ "I" (.int 0)) (D2_ : Sta Z Z.heap c1_ c10_ "I" (.int 8)) (h0 : 0 < cs.length) (h4 : cs.length ≤ 4) (hbd : ∀ c ∈ cs, ¬ c < 0 ∧ ¬ (65535 : Int32) < c) :
    MF la Z hE mn24 jc22 5 (some .int) ws (rr 1 0 0 13) #[(.ref t), (.int 35), (.int 0), (.int (Int32.ofNat cs.length))] (Q_uiuX Z t kt cs hE n0) := by
  refine MetFree.of_bodySF (plainFor_of_name pn_java_lang_StringUTF16) hisR ?_
  intro pg ev sb mi gs below me cd s₁ Bd hml0 hPt hKt
  obtain ⟨rfl, hZ, hh⟩ := hPt
  have hx := Bd.exec
  have hby := Bd.bytes
  have hml : cd.maxLocals = 5 := hml0
  have hown : sb.vm.findClass c1_ = some mi.cls := findClass_of_methodNamed Bd.named
  have X0 : Stand pg la ev (rr 1 0 0 13) sb mi #[(.ref t), (.int 35), (.int 0), (.int (Int32.ofNat cs.length))] below me cd s₁ [] 0 0 := Stand.of_body Bd
  have eE : s₁.heap = hE := by rw [← hh, Bd.state]; rfl
  have N0 := Fr.nil n0
  have pre0 : ∀ tt, SP pg ev below (s₁.setTop (mkF mi 0 #[.val (.ref t), .val (.int 35), .val (.int 0), .val (.int (Int32.ofNat cs.length)), .unset] [])) tt → SP pg ev below (s₁.setTop (entryFrame mi #[(.ref t), (.int 35), (.int 0), (.int (Int32.ofNat cs.length))] 5)) tt := fun tt kk => castTop (ef_uiuX mi t cs) kk
  obtain ⟨v101, _, ⟨T101, L101, k101, n101⟩, -, X101, ⟨Lc101, hQ101, l101, y101, z101⟩, st101⟩ := Jvm.LawKit.callS X0 hx (y := mn0) hown (mvT hZ (wd166 hw)) (mvT hZ (wd167 hw)) (mvT hZ (wd83 hw)) (mvT hZ (wd168 hw)) (by decide) (backOf (W := 0) (rm_gch la Z a0 hw [] t (0 : Int32) kt cs 0 hE n0 O P0_ D0_ D1_ D2_ (rfl : (0 : Int32) = Int32.ofNat 0) (by omega : 0 < cs.length) (by omega : cs.length ≤ 4000) (hbd : ∀ c ∈ cs, ¬ c < 0 ∧ ¬ (65535 : Int32) < c)) hZ (wd168 hw) (wd83 hw) (by decide) (by decide)) (g := (mkF mi 12 #[.val (.ref t), .val (.int 35), .val (.int 0), .val (.int (Int32.ofNat cs.length)), .val (.int 0)] [(.int 0), (.ref t)])) rfl (by rw [hml]; rfl) (argsL := [(.ref t), (.int 0)]) (rest := []) (lenOf pd_10 rfl) rfl (Nat.le_of_ble_eq_true rfl) (hb hby dj22_12) (fun _ _ => ⟨rfl, eE, (by decide : 0 + 0 ≤ _), (by decide : 0 + 0 ≤ _)⟩)
  dsimp only [Pt.U, Pt.locs, Pt.cells, Pt.slots] at X101 l101 y101 z101 st101 hQ101
  subst l101 y101 z101
  obtain ⟨rfl, Nq101, ek101⟩ := hQ101
  have N101 := Fr.app N0 Nq101
  have pre103 : ∀ tt, SP pg ev below (T101.setTop (mkF mi 16 #[.val (.ref t), .val (.int 35), .val (.int 0), .val (.int (Int32.ofNat cs.length)), .val (.int 0)] [(.int 35), (.int (cs.getD 0 0))])) tt → SP pg ev below (s₁.setTop (entryFrame mi #[(.ref t), (.int 35), (.int 0), (.int (Int32.ofNat cs.length))] 5)) tt := fun tt kk => pre0 _ (by
    show SP pg ev below (s₁.setTop (mkF mi 0 #[.val (.ref t), .val (.int 35), .val (.int 0), .val (.int (Int32.ofNat cs.length)), .unset] [])) _
    refine XS.iloadN X0.here hx rfl (hb hby dj22_0) rfl ?_
    refine XS.istore X0.here hx rfl (hb hby dj22_1) rfl (l' := #[.val (.ref t), .val (.int 35), .val (.int 0), .val (.int (Int32.ofNat cs.length)), .val (.int 0)]) rfl ?_
    refine XS.iload X0.here hx rfl (hb hby dj22_3) rfl ?_
    refine XS.iloadN X0.here hx rfl (hb hby dj22_5) rfl ?_
    refine XS.icmpNo X0.here hx rfl (hb hby dj22_6) rfl (tlt ((own_lt8 (a := 0) (b := cs.length) (by omega) (by omega)).mpr (by omega))).2.1 ?_
    refine XS.aloadN X0.here hx rfl (hb hby dj22_9) rfl rfl ?_
    refine XS.iload X0.here hx rfl (hb hby dj22_10) rfl ?_
    refine st101 _ ?_
    refine XS.iloadN X101.here hx rfl (hb hby dj22_15) rfl ?_
    exact kk)
  by_cases hc102 : (cs.getD 0 0) = (35 : Int32)
  · obtain ⟨fs, hr, hrun, hended, hW, hsame⟩ := X101.leave (v := some (.int 0)) (fun hq => by rw [Bd.returns] at hq; cases hq)
    refine ⟨_, _, pre103 _ ?_, hrun, hended, _, _, rfl, ?_, ⟨_, rfl⟩, hW, hsame.mono (by decide) (by decide)⟩
    · show SP pg ev below (T101.setTop (mkF mi 16 #[.val (.ref t), .val (.int 35), .val (.int 0), .val (.int (Int32.ofNat cs.length)), .val (.int 0)] [(.int 35), (.int (cs.getD 0 0))])) _
      refine XS.icmpNo X101.here hx rfl (hb hby dj22_16) rfl (teq hc102).2 ?_
      refine XS.iload X101.here hx rfl (hb hby dj22_19) rfl ?_
      show SP pg ev below (T101.setTop (mkF mi 21 #[.val (.ref t), .val (.int 35), .val (.int 0), .val (.int (Int32.ofNat cs.length)), .val (.int 0)] [(.int 0)])) _
      exact retI X101 hx Bd.returns (hb hby dj22_21) hr
    · show Q_uiuX Z t kt cs hE n0 _ T101.heap _
      rw [ek101]
      exact ⟨(congrArg (fun z => some (Value.int z)) (own_ix_hit0 cs 0 (by omega) own_lt0 hc102).symm), N101, rfl⟩
  · have pre105 : ∀ tt, SP pg ev below (T101.setTop (mkF mi 6 #[.val (.ref t), .val (.int 35), .val (.int 0), .val (.int (Int32.ofNat cs.length)), .val (.int 1)] [(.int (Int32.ofNat cs.length)), (.int 1)])) tt → SP pg ev below (s₁.setTop (entryFrame mi #[(.ref t), (.int 35), (.int 0), (.int (Int32.ofNat cs.length))] 5)) tt := fun tt kk => pre103 _ (by
      show SP pg ev below (T101.setTop (mkF mi 16 #[.val (.ref t), .val (.int 35), .val (.int 0), .val (.int (Int32.ofNat cs.length)), .val (.int 0)] [(.int 35), (.int (cs.getD 0 0))])) _
      refine XS.icmpYes X101.here hx rfl (pc0 := 16) (pc' := 22) rfl (hb hby dj22_16) rfl (feq hc102).2 (by decide) (by decide) ?_
      refine XS.iinc X101.here hx rfl (hb hby dj22_22) rfl (l' := #[.val (.ref t), .val (.int 35), .val (.int 0), .val (.int (Int32.ofNat cs.length)), .val (.int 1)]) rfl ?_
      refine XS.goto X101.here hx rfl (pc0 := 25) (pc' := 3) rfl (hb hby dj22_25) (by decide) (by decide) ?_
      refine XS.iload X101.here hx rfl (hb hby dj22_3) rfl ?_
      refine XS.iloadN X101.here hx rfl (hb hby dj22_5) rfl ?_
      exact kk)
    by_cases hc104 : (1 : Int32) < (Int32.ofNat cs.length)
    · have hk_106 : 1 < cs.length := ((own_lt8 (a := 1) (b := cs.length) (by omega) (by omega)).mp hc104)
      obtain ⟨v107, _, ⟨T107, L107, k107, n107⟩, -, X107, ⟨Lc107, hQ107, l107, y107, z107⟩, st107⟩ := Jvm.LawKit.callS X101 hx (y := mn0) hown (mvT hZ (wd166 hw)) (mvT hZ (wd167 hw)) (mvT hZ (wd83 hw)) (mvT hZ (wd168 hw)) (by decide) (backOf (W := 0) (rm_gch la Z a0 hw [] t (1 : Int32) kt cs 1 hE n0 O P0_ D0_ D1_ D2_ (rfl : (1 : Int32) = Int32.ofNat 1) (by omega : 1 < cs.length) (by omega : cs.length ≤ 4000) (hbd : ∀ c ∈ cs, ¬ c < 0 ∧ ¬ (65535 : Int32) < c)) hZ (wd168 hw) (wd83 hw) (by decide) (by decide)) (g := (mkF mi 12 #[.val (.ref t), .val (.int 35), .val (.int 0), .val (.int (Int32.ofNat cs.length)), .val (.int 1)] [(.int 1), (.ref t)])) rfl (by rw [hml]; rfl) (argsL := [(.ref t), (.int 1)]) (rest := []) (lenOf pd_10 rfl) rfl (Nat.le_of_ble_eq_true rfl) (hb hby dj22_12) (fun _ _ => ⟨rfl, ek101, (by decide : 0 + 0 ≤ _), (by decide : 0 + 0 ≤ _)⟩)
      dsimp only [Pt.U, Pt.locs, Pt.cells, Pt.slots] at X107 l107 y107 z107 st107 hQ107
      subst l107 y107 z107
      obtain ⟨rfl, Nq107, ek107⟩ := hQ107
      have N107 := Fr.app N101 Nq107
      have pre109 : ∀ tt, SP pg ev below (T107.setTop (mkF mi 16 #[.val (.ref t), .val (.int 35), .val (.int 0), .val (.int (Int32.ofNat cs.length)), .val (.int 1)] [(.int 35), (.int (cs.getD 1 0))])) tt → SP pg ev below (s₁.setTop (entryFrame mi #[(.ref t), (.int 35), (.int 0), (.int (Int32.ofNat cs.length))] 5)) tt := fun tt kk => pre105 _ (by
        show SP pg ev below (T101.setTop (mkF mi 6 #[.val (.ref t), .val (.int 35), .val (.int 0), .val (.int (Int32.ofNat cs.length)), .val (.int 1)] [(.int (Int32.ofNat cs.length)), (.int 1)])) _
        refine XS.icmpNo X101.here hx rfl (hb hby dj22_6) rfl (tlt hc104).2.1 ?_
        refine XS.aloadN X101.here hx rfl (hb hby dj22_9) rfl rfl ?_
        refine XS.iload X101.here hx rfl (hb hby dj22_10) rfl ?_
        refine st107 _ ?_
        refine XS.iloadN X107.here hx rfl (hb hby dj22_15) rfl ?_
        exact kk)
      by_cases hc108 : (cs.getD 1 0) = (35 : Int32)
      · obtain ⟨fs, hr, hrun, hended, hW, hsame⟩ := X107.leave (v := some (.int 1)) (fun hq => by rw [Bd.returns] at hq; cases hq)
        refine ⟨_, _, pre109 _ ?_, hrun, hended, _, _, rfl, ?_, ⟨_, rfl⟩, hW, hsame.mono (by decide) (by decide)⟩
        · show SP pg ev below (T107.setTop (mkF mi 16 #[.val (.ref t), .val (.int 35), .val (.int 0), .val (.int (Int32.ofNat cs.length)), .val (.int 1)] [(.int 35), (.int (cs.getD 1 0))])) _
          refine XS.icmpNo X107.here hx rfl (hb hby dj22_16) rfl (teq hc108).2 ?_
          refine XS.iload X107.here hx rfl (hb hby dj22_19) rfl ?_
          show SP pg ev below (T107.setTop (mkF mi 21 #[.val (.ref t), .val (.int 35), .val (.int 0), .val (.int (Int32.ofNat cs.length)), .val (.int 1)] [(.int 1)])) _
          exact retI X107 hx Bd.returns (hb hby dj22_21) hr
        · show Q_uiuX Z t kt cs hE n0 _ T107.heap _
          rw [ek107]
          exact ⟨(congrArg (fun z => some (Value.int z)) (own_ix_hit0 cs 1 (by omega) (own_ltS own_lt0 hc102) hc108).symm), N107, rfl⟩
      · have pre111 : ∀ tt, SP pg ev below (T107.setTop (mkF mi 6 #[.val (.ref t), .val (.int 35), .val (.int 0), .val (.int (Int32.ofNat cs.length)), .val (.int 2)] [(.int (Int32.ofNat cs.length)), (.int 2)])) tt → SP pg ev below (s₁.setTop (entryFrame mi #[(.ref t), (.int 35), (.int 0), (.int (Int32.ofNat cs.length))] 5)) tt := fun tt kk => pre109 _ (by
          show SP pg ev below (T107.setTop (mkF mi 16 #[.val (.ref t), .val (.int 35), .val (.int 0), .val (.int (Int32.ofNat cs.length)), .val (.int 1)] [(.int 35), (.int (cs.getD 1 0))])) _
          refine XS.icmpYes X107.here hx rfl (pc0 := 16) (pc' := 22) rfl (hb hby dj22_16) rfl (feq hc108).2 (by decide) (by decide) ?_
          refine XS.iinc X107.here hx rfl (hb hby dj22_22) rfl (l' := #[.val (.ref t), .val (.int 35), .val (.int 0), .val (.int (Int32.ofNat cs.length)), .val (.int 2)]) rfl ?_
          refine XS.goto X107.here hx rfl (pc0 := 25) (pc' := 3) rfl (hb hby dj22_25) (by decide) (by decide) ?_
          refine XS.iload X107.here hx rfl (hb hby dj22_3) rfl ?_
          refine XS.iloadN X107.here hx rfl (hb hby dj22_5) rfl ?_
          exact kk)
        by_cases hc110 : (2 : Int32) < (Int32.ofNat cs.length)
        · have hk_112 : 2 < cs.length := ((own_lt8 (a := 2) (b := cs.length) (by omega) (by omega)).mp hc110)
          obtain ⟨v113, _, ⟨T113, L113, k113, n113⟩, -, X113, ⟨Lc113, hQ113, l113, y113, z113⟩, st113⟩ := Jvm.LawKit.callS X107 hx (y := mn0) hown (mvT hZ (wd166 hw)) (mvT hZ (wd167 hw)) (mvT hZ (wd83 hw)) (mvT hZ (wd168 hw)) (by decide) (backOf (W := 0) (rm_gch la Z a0 hw [] t (2 : Int32) kt cs 2 hE n0 O P0_ D0_ D1_ D2_ (rfl : (2 : Int32) = Int32.ofNat 2) (by omega : 2 < cs.length) (by omega : cs.length ≤ 4000) (hbd : ∀ c ∈ cs, ¬ c < 0 ∧ ¬ (65535 : Int32) < c)) hZ (wd168 hw) (wd83 hw) (by decide) (by decide)) (g := (mkF mi 12 #[.val (.ref t), .val (.int 35), .val (.int 0), .val (.int (Int32.ofNat cs.length)), .val (.int 2)] [(.int 2), (.ref t)])) rfl (by rw [hml]; rfl) (argsL := [(.ref t), (.int 2)]) (rest := []) (lenOf pd_10 rfl) rfl (Nat.le_of_ble_eq_true rfl) (hb hby dj22_12) (fun _ _ => ⟨rfl, ek107, (by decide : 0 + 0 ≤ _), (by decide : 0 + 0 ≤ _)⟩)
          dsimp only [Pt.U, Pt.locs, Pt.cells, Pt.slots] at X113 l113 y113 z113 st113 hQ113
          subst l113 y113 z113
          obtain ⟨rfl, Nq113, ek113⟩ := hQ113
          have N113 := Fr.app N107 Nq113
          have pre115 : ∀ tt, SP pg ev below (T113.setTop (mkF mi 16 #[.val (.ref t), .val (.int 35), .val (.int 0), .val (.int (Int32.ofNat cs.length)), .val (.int 2)] [(.int 35), (.int (cs.getD 2 0))])) tt → SP pg ev below (s₁.setTop (entryFrame mi #[(.ref t), (.int 35), (.int 0), (.int (Int32.ofNat cs.length))] 5)) tt := fun tt kk => pre111 _ (by
            show SP pg ev below (T107.setTop (mkF mi 6 #[.val (.ref t), .val (.int 35), .val (.int 0), .val (.int (Int32.ofNat cs.length)), .val (.int 2)] [(.int (Int32.ofNat cs.length)), (.int 2)])) _
            refine XS.icmpNo X107.here hx rfl (hb hby dj22_6) rfl (tlt hc110).2.1 ?_
            refine XS.aloadN X107.here hx rfl (hb hby dj22_9) rfl rfl ?_
            refine XS.iload X107.here hx rfl (hb hby dj22_10) rfl ?_
            refine st113 _ ?_
            refine XS.iloadN X113.here hx rfl (hb hby dj22_15) rfl ?_
            exact kk)
          by_cases hc114 : (cs.getD 2 0) = (35 : Int32)
          · obtain ⟨fs, hr, hrun, hended, hW, hsame⟩ := X113.leave (v := some (.int 2)) (fun hq => by rw [Bd.returns] at hq; cases hq)
            refine ⟨_, _, pre115 _ ?_, hrun, hended, _, _, rfl, ?_, ⟨_, rfl⟩, hW, hsame.mono (by decide) (by decide)⟩
            · show SP pg ev below (T113.setTop (mkF mi 16 #[.val (.ref t), .val (.int 35), .val (.int 0), .val (.int (Int32.ofNat cs.length)), .val (.int 2)] [(.int 35), (.int (cs.getD 2 0))])) _
              refine XS.icmpNo X113.here hx rfl (hb hby dj22_16) rfl (teq hc114).2 ?_
              refine XS.iload X113.here hx rfl (hb hby dj22_19) rfl ?_
              show SP pg ev below (T113.setTop (mkF mi 21 #[.val (.ref t), .val (.int 35), .val (.int 0), .val (.int (Int32.ofNat cs.length)), .val (.int 2)] [(.int 2)])) _
              exact retI X113 hx Bd.returns (hb hby dj22_21) hr
            · show Q_uiuX Z t kt cs hE n0 _ T113.heap _
              rw [ek113]
              exact ⟨(congrArg (fun z => some (Value.int z)) (own_ix_hit0 cs 2 (by omega) (own_ltS (own_ltS own_lt0 hc102) hc108) hc114).symm), N113, rfl⟩
          · have pre117 : ∀ tt, SP pg ev below (T113.setTop (mkF mi 6 #[.val (.ref t), .val (.int 35), .val (.int 0), .val (.int (Int32.ofNat cs.length)), .val (.int 3)] [(.int (Int32.ofNat cs.length)), (.int 3)])) tt → SP pg ev below (s₁.setTop (entryFrame mi #[(.ref t), (.int 35), (.int 0), (.int (Int32.ofNat cs.length))] 5)) tt := fun tt kk => pre115 _ (by
              show SP pg ev below (T113.setTop (mkF mi 16 #[.val (.ref t), .val (.int 35), .val (.int 0), .val (.int (Int32.ofNat cs.length)), .val (.int 2)] [(.int 35), (.int (cs.getD 2 0))])) _
              refine XS.icmpYes X113.here hx rfl (pc0 := 16) (pc' := 22) rfl (hb hby dj22_16) rfl (feq hc114).2 (by decide) (by decide) ?_
              refine XS.iinc X113.here hx rfl (hb hby dj22_22) rfl (l' := #[.val (.ref t), .val (.int 35), .val (.int 0), .val (.int (Int32.ofNat cs.length)), .val (.int 3)]) rfl ?_
              refine XS.goto X113.here hx rfl (pc0 := 25) (pc' := 3) rfl (hb hby dj22_25) (by decide) (by decide) ?_
              refine XS.iload X113.here hx rfl (hb hby dj22_3) rfl ?_
              refine XS.iloadN X113.here hx rfl (hb hby dj22_5) rfl ?_
              exact kk)
            by_cases hc116 : (3 : Int32) < (Int32.ofNat cs.length)
            · have hk_118 : 3 < cs.length := ((own_lt8 (a := 3) (b := cs.length) (by omega) (by omega)).mp hc116)
              obtain ⟨v119, _, ⟨T119, L119, k119, n119⟩, -, X119, ⟨Lc119, hQ119, l119, y119, z119⟩, st119⟩ := Jvm.LawKit.callS X113 hx (y := mn0) hown (mvT hZ (wd166 hw)) (mvT hZ (wd167 hw)) (mvT hZ (wd83 hw)) (mvT hZ (wd168 hw)) (by decide) (backOf (W := 0) (rm_gch la Z a0 hw [] t (3 : Int32) kt cs 3 hE n0 O P0_ D0_ D1_ D2_ (rfl : (3 : Int32) = Int32.ofNat 3) (by omega : 3 < cs.length) (by omega : cs.length ≤ 4000) (hbd : ∀ c ∈ cs, ¬ c < 0 ∧ ¬ (65535 : Int32) < c)) hZ (wd168 hw) (wd83 hw) (by decide) (by decide)) (g := (mkF mi 12 #[.val (.ref t), .val (.int 35), .val (.int 0), .val (.int (Int32.ofNat cs.length)), .val (.int 3)] [(.int 3), (.ref t)])) rfl (by rw [hml]; rfl) (argsL := [(.ref t), (.int 3)]) (rest := []) (lenOf pd_10 rfl) rfl (Nat.le_of_ble_eq_true rfl) (hb hby dj22_12) (fun _ _ => ⟨rfl, ek113, (by decide : 0 + 0 ≤ _), (by decide : 0 + 0 ≤ _)⟩)
              dsimp only [Pt.U, Pt.locs, Pt.cells, Pt.slots] at X119 l119 y119 z119 st119 hQ119
              subst l119 y119 z119
              obtain ⟨rfl, Nq119, ek119⟩ := hQ119
              have N119 := Fr.app N113 Nq119
              have pre121 : ∀ tt, SP pg ev below (T119.setTop (mkF mi 16 #[.val (.ref t), .val (.int 35), .val (.int 0), .val (.int (Int32.ofNat cs.length)), .val (.int 3)] [(.int 35), (.int (cs.getD 3 0))])) tt → SP pg ev below (s₁.setTop (entryFrame mi #[(.ref t), (.int 35), (.int 0), (.int (Int32.ofNat cs.length))] 5)) tt := fun tt kk => pre117 _ (by
                show SP pg ev below (T113.setTop (mkF mi 6 #[.val (.ref t), .val (.int 35), .val (.int 0), .val (.int (Int32.ofNat cs.length)), .val (.int 3)] [(.int (Int32.ofNat cs.length)), (.int 3)])) _
                refine XS.icmpNo X113.here hx rfl (hb hby dj22_6) rfl (tlt hc116).2.1 ?_
                refine XS.aloadN X113.here hx rfl (hb hby dj22_9) rfl rfl ?_
                refine XS.iload X113.here hx rfl (hb hby dj22_10) rfl ?_
                refine st119 _ ?_
                refine XS.iloadN X119.here hx rfl (hb hby dj22_15) rfl ?_
                exact kk)
              by_cases hc120 : (cs.getD 3 0) = (35 : Int32)
              · obtain ⟨fs, hr, hrun, hended, hW, hsame⟩ := X119.leave (v := some (.int 3)) (fun hq => by rw [Bd.returns] at hq; cases hq)
                refine ⟨_, _, pre121 _ ?_, hrun, hended, _, _, rfl, ?_, ⟨_, rfl⟩, hW, hsame.mono (by decide) (by decide)⟩
                · show SP pg ev below (T119.setTop (mkF mi 16 #[.val (.ref t), .val (.int 35), .val (.int 0), .val (.int (Int32.ofNat cs.length)), .val (.int 3)] [(.int 35), (.int (cs.getD 3 0))])) _
                  refine XS.icmpNo X119.here hx rfl (hb hby dj22_16) rfl (teq hc120).2 ?_
                  refine XS.iload X119.here hx rfl (hb hby dj22_19) rfl ?_
                  show SP pg ev below (T119.setTop (mkF mi 21 #[.val (.ref t), .val (.int 35), .val (.int 0), .val (.int (Int32.ofNat cs.length)), .val (.int 3)] [(.int 3)])) _
                  exact retI X119 hx Bd.returns (hb hby dj22_21) hr
                · show Q_uiuX Z t kt cs hE n0 _ T119.heap _
                  rw [ek119]
                  exact ⟨(congrArg (fun z => some (Value.int z)) (own_ix_hit0 cs 3 (by omega) (own_ltS (own_ltS (own_ltS own_lt0 hc102) hc108) hc114) hc120).symm), N119, rfl⟩
              · obtain ⟨fs, hr, hrun, hended, hW, hsame⟩ := X119.leave (v := some (.int (-1))) (fun hq => by rw [Bd.returns] at hq; cases hq)
                refine ⟨_, _, pre121 _ ?_, hrun, hended, _, _, rfl, ?_, ⟨_, rfl⟩, hW, hsame.mono (by decide) (by decide)⟩
                · show SP pg ev below (T119.setTop (mkF mi 16 #[.val (.ref t), .val (.int 35), .val (.int 0), .val (.int (Int32.ofNat cs.length)), .val (.int 3)] [(.int 35), (.int (cs.getD 3 0))])) _
                  refine XS.icmpYes X119.here hx rfl (pc0 := 16) (pc' := 22) rfl (hb hby dj22_16) rfl (feq hc120).2 (by decide) (by decide) ?_
                  refine XS.iinc X119.here hx rfl (hb hby dj22_22) rfl (l' := #[.val (.ref t), .val (.int 35), .val (.int 0), .val (.int (Int32.ofNat cs.length)), .val (.int 4)]) rfl ?_
                  refine XS.goto X119.here hx rfl (pc0 := 25) (pc' := 3) rfl (hb hby dj22_25) (by decide) (by decide) ?_
                  refine XS.iload X119.here hx rfl (hb hby dj22_3) rfl ?_
                  refine XS.iloadN X119.here hx rfl (hb hby dj22_5) rfl ?_
                  refine XS.icmpYes X119.here hx rfl (pc0 := 6) (pc' := 28) rfl (hb hby dj22_6) rfl (flt (fun q => absurd ((own_lt8 (a := 4) (b := cs.length) (by omega) (by omega)).mp q) (by omega))).2.1 (by decide) (by decide) ?_
                  refine XS.iconst X119.here hx rfl (hb hby dj22_28) ?_
                  show SP pg ev below (T119.setTop (mkF mi 29 #[.val (.ref t), .val (.int 35), .val (.int 0), .val (.int (Int32.ofNat cs.length)), .val (.int 4)] [(.int (-1))])) _
                  exact retI X119 hx Bd.returns (hb hby dj22_29) hr
                · show Q_uiuX Z t kt cs hE n0 _ T119.heap _
                  rw [ek119]
                  exact ⟨(congrArg (fun z => some (Value.int z)) (own_ix_out cs 0 (fun j hj => (show ∀ j, j < 4 → ¬ cs.getD j 0 = (35 : Int32) from (own_ltS (own_ltS (own_ltS (own_ltS own_lt0 hc102) hc108) hc114) hc120)) j (by omega))).symm), N119, rfl⟩
            · obtain ⟨fs, hr, hrun, hended, hW, hsame⟩ := X113.leave (v := some (.int (-1))) (fun hq => by rw [Bd.returns] at hq; cases hq)
              refine ⟨_, _, pre117 _ ?_, hrun, hended, _, _, rfl, ?_, ⟨_, rfl⟩, hW, hsame.mono (by decide) (by decide)⟩
              · show SP pg ev below (T113.setTop (mkF mi 6 #[.val (.ref t), .val (.int 35), .val (.int 0), .val (.int (Int32.ofNat cs.length)), .val (.int 3)] [(.int (Int32.ofNat cs.length)), (.int 3)])) _
                refine XS.icmpYes X113.here hx rfl (pc0 := 6) (pc' := 28) rfl (hb hby dj22_6) rfl (flt hc116).2.1 (by decide) (by decide) ?_
                refine XS.iconst X113.here hx rfl (hb hby dj22_28) ?_
                show SP pg ev below (T113.setTop (mkF mi 29 #[.val (.ref t), .val (.int 35), .val (.int 0), .val (.int (Int32.ofNat cs.length)), .val (.int 3)] [(.int (-1))])) _
                exact retI X113 hx Bd.returns (hb hby dj22_29) hr
              · show Q_uiuX Z t kt cs hE n0 _ T113.heap _
                rw [ek113]
                exact ⟨(congrArg (fun z => some (Value.int z)) (own_ix_out cs 0 (fun j hj => (show ∀ j, j < 3 → ¬ cs.getD j 0 = (35 : Int32) from (own_ltS (own_ltS (own_ltS own_lt0 hc102) hc108) hc114)) j (by have := (show ¬ (3 < cs.length) from fun z => hc116 ((own_lt8 (a := 3) (b := cs.length) (by omega) (by omega)).mpr z)); omega))).symm), N113, rfl⟩
        · obtain ⟨fs, hr, hrun, hended, hW, hsame⟩ := X107.leave (v := some (.int (-1))) (fun hq => by rw [Bd.returns] at hq; cases hq)
          refine ⟨_, _, pre111 _ ?_, hrun, hended, _, _, rfl, ?_, ⟨_, rfl⟩, hW, hsame.mono (by decide) (by decide)⟩
          · show SP pg ev below (T107.setTop (mkF mi 6 #[.val (.ref t), .val (.int 35), .val (.int 0), .val (.int (Int32.ofNat cs.length)), .val (.int 2)] [(.int (Int32.ofNat cs.length)), (.int 2)])) _
            refine XS.icmpYes X107.here hx rfl (pc0 := 6) (pc' := 28) rfl (hb hby dj22_6) rfl (flt hc110).2.1 (by decide) (by decide) ?_
            refine XS.iconst X107.here hx rfl (hb hby dj22_28) ?_
            show SP pg ev below (T107.setTop (mkF mi 29 #[.val (.ref t), .val (.int 35), .val (.int 0), .val (.int (Int32.ofNat cs.length)), .val (.int 2)] [(.int (-1))])) _
            exact retI X107 hx Bd.returns (hb hby dj22_29) hr
          · show Q_uiuX Z t kt cs hE n0 _ T107.heap _
            rw [ek107]
            exact ⟨(congrArg (fun z => some (Value.int z)) (own_ix_out cs 0 (fun j hj => (show ∀ j, j < 2 → ¬ cs.getD j 0 = (35 : Int32) from (own_ltS (own_ltS own_lt0 hc102) hc108)) j (by have := (show ¬ (2 < cs.length) from fun z => hc110 ((own_lt8 (a := 2) (b := cs.length) (by omega) (by omega)).mpr z)); omega))).symm), N107, rfl⟩
    · obtain ⟨fs, hr, hrun, hended, hW, hsame⟩ := X101.leave (v := some (.int (-1))) (fun hq => by rw [Bd.returns] at hq; cases hq)
      refine ⟨_, _, pre105 _ ?_, hrun, hended, _, _, rfl, ?_, ⟨_, rfl⟩, hW, hsame.mono (by decide) (by decide)⟩
      · show SP pg ev below (T101.setTop (mkF mi 6 #[.val (.ref t), .val (.int 35), .val (.int 0), .val (.int (Int32.ofNat cs.length)), .val (.int 1)] [(.int (Int32.ofNat cs.length)), (.int 1)])) _
        refine XS.icmpYes X101.here hx rfl (pc0 := 6) (pc' := 28) rfl (hb hby dj22_6) rfl (flt hc104).2.1 (by decide) (by decide) ?_
        refine XS.iconst X101.here hx rfl (hb hby dj22_28) ?_
        show SP pg ev below (T101.setTop (mkF mi 29 #[.val (.ref t), .val (.int 35), .val (.int 0), .val (.int (Int32.ofNat cs.length)), .val (.int 1)] [(.int (-1))])) _
        exact retI X101 hx Bd.returns (hb hby dj22_29) hr
      · show Q_uiuX Z t kt cs hE n0 _ T101.heap _
        rw [ek101]
        exact ⟨(congrArg (fun z => some (Value.int z)) (own_ix_out cs 0 (fun j hj => (show ∀ j, j < 1 → ¬ cs.getD j 0 = (35 : Int32) from (own_ltS own_lt0 hc102)) j (by have := (show ¬ (1 < cs.length) from fun z => hc104 ((own_lt8 (a := 1) (b := cs.length) (by omega) (by omega)).mpr z)); omega))).symm), N101, rfl⟩
theorem dj23_0 : decode jc23 0 = .ok (.iload_n 1, 1) := by decide +kernel
theorem dj23_1 : decode jc23 1 = .ok (.invokestatic 88, 3) := by decide +kernel
theorem dj23_4 : decode jc23 4 = .ok (.ifCond .ne 5, 3) := by decide +kernel
theorem dj23_9 : decode jc23 9 = .ok (.iload_n 2, 1) := by decide +kernel
theorem dj23_10 : decode jc23 10 = .ok (.iconst 0, 1) := by decide +kernel
theorem dj23_11 : decode jc23 11 = .ok (.invokestatic 92, 3) := by decide +kernel
theorem dj23_14 : decode jc23 14 = .ok (.istore_n 2, 1) := by decide +kernel
theorem dj23_15 : decode jc23 15 = .ok (.iload_n 3, 1) := by decide +kernel
theorem dj23_16 : decode jc23 16 = .ok (.aload_n 0, 1) := by decide +kernel
theorem dj23_17 : decode jc23 17 = .ok (.arraylength, 1) := by decide +kernel
theorem dj23_18 : decode jc23 18 = .ok (.invokestatic 38, 3) := by decide +kernel
theorem dj23_21 : decode jc23 21 = .ok (.istore_n 3, 1) := by decide +kernel
theorem dj23_22 : decode jc23 22 = .ok (.iload_n 2, 1) := by decide +kernel
theorem dj23_23 : decode jc23 23 = .ok (.iload_n 3, 1) := by decide +kernel
theorem dj23_24 : decode jc23 24 = .ok (.if_icmp .lt 5, 3) := by decide +kernel
theorem dj23_27 : decode jc23 27 = .ok (.iconst (-1), 1) := by decide +kernel
theorem dj23_28 : decode jc23 28 = .ok (.ireturn, 1) := by decide +kernel
theorem dj23_29 : decode jc23 29 = .ok (.aload_n 0, 1) := by decide +kernel
theorem dj23_30 : decode jc23 30 = .ok (.iload_n 1, 1) := by decide +kernel
theorem dj23_31 : decode jc23 31 = .ok (.iload_n 2, 1) := by decide +kernel
theorem dj23_32 : decode jc23 32 = .ok (.iload_n 3, 1) := by decide +kernel
theorem dj23_33 : decode jc23 33 = .ok (.invokestatic 95, 3) := by decide +kernel
theorem dj23_36 : decode jc23 36 = .ok (.ireturn, 1) := by decide +kernel
theorem pd_13 : parseMethodDescriptor "(I)Z" = some ⟨[.int], some .boolean⟩ := by decide +kernel
theorem pd_14 : parseMethodDescriptor "(II)I" = some ⟨[.int, .int], some .int⟩ := by decide +kernel
theorem pd_15 : parseMethodDescriptor "([BIII)I" = some ⟨[(.array .byte), .int, .int, .int], some .int⟩ := by decide +kernel
theorem ef_lio (mi : MethodId) (t : Addr) (cs : List Int32) : entryFrame mi #[(.ref t), (.int 35), (.int 0), (.int (Int32.ofNat cs.length))] 4 = mkF mi 0 #[.val (.ref t), .val (.int 35), .val (.int 0), .val (.int (Int32.ofNat cs.length))] [] := rfl
def Q_lio (Z : State) (t : Addr) (kt : ClassId) (cs : List Int32) (hE : Heap) (n0 : Nat) (vv : Option Value) (hh : Heap) (LL : List Loc) : Prop := (vv = some (.int (ixG 0 cs))) ∧ (Fr n0 LL) ∧ (hh = hE)
theorem rm_lio (hw : HW a0 Z) (ws : List Cond) (t : Addr) (kt : ClassId) (cs : List Int32) (hE : Heap) (n0 : Nat) (O : Old Z n0 hE) (P0_ : Arv Z hE t kt .byte (Int32.ofNat cs.length) (cs.map fun c => Value.int (StrChars.lo8 c)) (.int 0)) (h4 : cs.length ≤ 4) (hbl : ∀ c ∈ cs, ¬ c < 0 ∧ ¬ (255 : Int32) < c) :
    MF la Z hE mn25 jc23 4 (some .int) ws (rr 1 0 0 17) #[(.ref t), (.int 35), (.int 0), (.int (Int32.ofNat cs.length))] (Q_lio Z t kt cs hE n0) := by
  refine MetFree.of_bodySF (plainFor_of_name pn_java_lang_StringLatin1) hisR ?_
  intro pg ev sb mi gs below me cd s₁ Bd hml0 hPt hKt
  obtain ⟨rfl, hZ, hh⟩ := hPt
  have hx := Bd.exec
  have hby := Bd.bytes
  have hml : cd.maxLocals = 4 := hml0
  have hown : sb.vm.findClass c5_ = some mi.cls := findClass_of_methodNamed Bd.named
  have X0 : Stand pg la ev (rr 1 0 0 17) sb mi #[(.ref t), (.int 35), (.int 0), (.int (Int32.ofNat cs.length))] below me cd s₁ [] 0 0 := Stand.of_body Bd
  have eE : s₁.heap = hE := by rw [← hh, Bd.state]; rfl
  have N0 := Fr.nil n0
  have pre0 : ∀ tt, SP pg ev below (s₁.setTop (mkF mi 0 #[.val (.ref t), .val (.int 35), .val (.int 0), .val (.int (Int32.ofNat cs.length))] [])) tt → SP pg ev below (s₁.setTop (entryFrame mi #[(.ref t), (.int 35), (.int 0), (.int (Int32.ofNat cs.length))] 4)) tt := fun tt kk => castTop (ef_lio mi t cs) kk
  obtain ⟨v101, _, ⟨T101, L101, k101, n101⟩, -, X101, ⟨Lc101, hQ101, l101, y101, z101⟩, st101⟩ := Jvm.LawKit.callS X0 hx (y := mn22) hown (mvT hZ (wd64 hw)) (mvT hZ (wd65 hw)) (mvT hZ (wd62 hw)) (mvT hZ (wd66 hw)) (by decide) (backOf (W := 0) (rm_cen la Z a0 hw []  hE n0 O) hZ (wd66 hw) (wd62 hw) (by decide) (by decide)) (g := (mkF mi 1 #[.val (.ref t), .val (.int 35), .val (.int 0), .val (.int (Int32.ofNat cs.length))] [(.int 35)])) rfl (by rw [hml]; rfl) (argsL := [(.int 35)]) (rest := []) (lenOf pd_13 rfl) rfl (Nat.le_of_ble_eq_true rfl) (hb hby dj23_1) (fun _ _ => ⟨rfl, eE, (by decide : 0 + 0 ≤ _), (by decide : 0 + 0 ≤ _)⟩)
  dsimp only [Pt.U, Pt.locs, Pt.cells, Pt.slots] at X101 l101 y101 z101 st101 hQ101
  subst l101 y101 z101
  obtain ⟨rfl, Nq101, ek101⟩ := hQ101
  have N101 := Fr.app N0 Nq101
  obtain ⟨v102, _, ⟨T102, L102, k102, n102⟩, -, X102, ⟨Lc102, hQ102, l102, y102, z102⟩, st102⟩ := Jvm.LawKit.callS X101 hx (y := mn5) hown (mvT hZ (wd67 hw)) (mvT hZ (wd68 hw)) (mvT hZ (wd69 hw)) (mvT hZ (wd70 hw)) (by decide) (backOf (W := 0) (rm_mmax la Z a0 hw [] (0 : Int32) (0 : Int32) hE n0 O) hZ (wd70 hw) (wd69 hw) (by decide) (by decide)) (g := (mkF mi 11 #[.val (.ref t), .val (.int 35), .val (.int 0), .val (.int (Int32.ofNat cs.length))] [(.int 0), (.int 0)])) rfl (by rw [hml]; rfl) (argsL := [(.int 0), (.int 0)]) (rest := []) (lenOf pd_14 rfl) rfl (Nat.le_of_ble_eq_true rfl) (hb hby dj23_11) (fun _ _ => ⟨rfl, ek101, (by decide : 0 + 0 ≤ _), (by decide : 0 + 0 ≤ _)⟩)
  dsimp only [Pt.U, Pt.locs, Pt.cells, Pt.slots] at X102 l102 y102 z102 st102 hQ102
  subst l102 y102 z102
  obtain ⟨rfl, Nq102, ek102⟩ := hQ102
  have N102 := Fr.app N101 Nq102
  have pre103 : ∀ tt, SP pg ev below (T102.setTop (mkF mi 14 #[.val (.ref t), .val (.int 35), .val (.int 0), .val (.int (Int32.ofNat cs.length))] [(.int (if (0 : Int32) < (0 : Int32) then (0 : Int32) else (0 : Int32)))])) tt → SP pg ev below (s₁.setTop (entryFrame mi #[(.ref t), (.int 35), (.int 0), (.int (Int32.ofNat cs.length))] 4)) tt := fun tt kk => pre0 _ (by
    show SP pg ev below (s₁.setTop (mkF mi 0 #[.val (.ref t), .val (.int 35), .val (.int 0), .val (.int (Int32.ofNat cs.length))] [])) _
    refine XS.iloadN X0.here hx rfl (hb hby dj23_0) rfl ?_
    refine st101 _ ?_
    refine XS.ifYes X101.here hx rfl (pc0 := 4) (pc' := 9) rfl (hb hby dj23_4) rfl ((if0 _ _).trans (feq (by decide : ¬ ((1 : Int32) = (0 : Int32)))).2) (by decide) (by decide) ?_
    refine XS.iloadN X101.here hx rfl (hb hby dj23_9) rfl ?_
    refine XS.iconst X101.here hx rfl (hb hby dj23_10) ?_
    refine st102 _ ?_
    exact kk)
  have pre104 : ∀ tt, SP pg ev below (T102.setTop (mkF mi 14 #[.val (.ref t), .val (.int 35), .val (.int 0), .val (.int (Int32.ofNat cs.length))] [(.int 0)])) tt → SP pg ev below (s₁.setTop (entryFrame mi #[(.ref t), (.int 35), (.int 0), (.int (Int32.ofNat cs.length))] 4)) tt := fun tt kk => pre103 tt (by rw [show (if (0 : Int32) < (0 : Int32) then (0 : Int32) else (0 : Int32)) = (0 : Int32) from by decide]; exact kk)
  obtain ⟨cl105, Ar105, -, Sz105, Nn105, -, -⟩ := id P0_
  obtain ⟨v106, _, ⟨T106, L106, k106, n106⟩, -, X106, ⟨Lc106, hQ106, l106, y106, z106⟩, st106⟩ := Jvm.LawKit.callS X102 hx (y := mn6) hown (mvT hZ (wd71 hw)) (mvT hZ (wd72 hw)) (mvT hZ (wd69 hw)) (mvT hZ (wd73 hw)) (by decide) (backOf (W := 0) (rm_mmin la Z a0 hw [] (Int32.ofNat cs.length) (Int32.ofNat cs.length) hE n0 O) hZ (wd73 hw) (wd69 hw) (by decide) (by decide)) (g := (mkF mi 18 #[.val (.ref t), .val (.int 35), .val (.int 0), .val (.int (Int32.ofNat cs.length))] [(.int (Int32.ofNat cs.length)), (.int (Int32.ofNat cs.length))])) rfl (by rw [hml]; rfl) (argsL := [(.int (Int32.ofNat cs.length)), (.int (Int32.ofNat cs.length))]) (rest := []) (lenOf pd_14 rfl) rfl (Nat.le_of_ble_eq_true rfl) (hb hby dj23_18) (fun _ _ => ⟨rfl, ek102, (by decide : 0 + 0 ≤ _), (by decide : 0 + 0 ≤ _)⟩)
  dsimp only [Pt.U, Pt.locs, Pt.cells, Pt.slots] at X106 l106 y106 z106 st106 hQ106
  subst l106 y106 z106
  obtain ⟨rfl, Nq106, ek106⟩ := hQ106
  have N106 := Fr.app N102 Nq106
  have pre107 : ∀ tt, SP pg ev below (T106.setTop (mkF mi 21 #[.val (.ref t), .val (.int 35), .val (.int 0), .val (.int (Int32.ofNat cs.length))] [(.int (if (Int32.ofNat cs.length) < (Int32.ofNat cs.length) then (Int32.ofNat cs.length) else (Int32.ofNat cs.length)))])) tt → SP pg ev below (s₁.setTop (entryFrame mi #[(.ref t), (.int 35), (.int 0), (.int (Int32.ofNat cs.length))] 4)) tt := fun tt kk => pre104 _ (by
    show SP pg ev below (T102.setTop (mkF mi 14 #[.val (.ref t), .val (.int 35), .val (.int 0), .val (.int (Int32.ofNat cs.length))] [(.int 0)])) _
    refine XS.istoreN X102.here hx rfl (hb hby dj23_14) rfl (l' := #[.val (.ref t), .val (.int 35), .val (.int 0), .val (.int (Int32.ofNat cs.length))]) rfl ?_
    refine XS.iloadN X102.here hx rfl (hb hby dj23_15) rfl ?_
    refine XS.aloadN X102.here hx rfl (hb hby dj23_16) rfl rfl ?_
    refine X102.arraylength hx (cell := cl105) (by rw [ek102]; exact Ar105.1) (State.isArrayOf_alike hZ.alike Ar105.2.1) (g := (mkF mi 17 #[.val (.ref t), .val (.int 35), .val (.int 0), .val (.int (Int32.ofNat cs.length))] [(.ref t), (.int (Int32.ofNat cs.length))])) rfl (rest := [(.int (Int32.ofNat cs.length))]) rfl (hb hby dj23_17) _ ?_
    rw [len_of Sz105 Nn105]
    refine st106 _ ?_
    exact kk)
  have pre108 : ∀ tt, SP pg ev below (T106.setTop (mkF mi 21 #[.val (.ref t), .val (.int 35), .val (.int 0), .val (.int (Int32.ofNat cs.length))] [(.int (Int32.ofNat cs.length))])) tt → SP pg ev below (s₁.setTop (entryFrame mi #[(.ref t), (.int 35), (.int 0), (.int (Int32.ofNat cs.length))] 4)) tt := fun tt kk => pre107 tt (by rw [show (if (Int32.ofNat cs.length) < (Int32.ofNat cs.length) then (Int32.ofNat cs.length) else (Int32.ofNat cs.length)) = (Int32.ofNat cs.length) from by split <;> rfl]; exact kk)
  have pre110 : ∀ tt, SP pg ev below (T106.setTop (mkF mi 24 #[.val (.ref t), .val (.int 35), .val (.int 0), .val (.int (Int32.ofNat cs.length))] [(.int (Int32.ofNat cs.length)), (.int 0)])) tt → SP pg ev below (s₁.setTop (entryFrame mi #[(.ref t), (.int 35), (.int 0), (.int (Int32.ofNat cs.length))] 4)) tt := fun tt kk => pre108 _ (by
    show SP pg ev below (T106.setTop (mkF mi 21 #[.val (.ref t), .val (.int 35), .val (.int 0), .val (.int (Int32.ofNat cs.length))] [(.int (Int32.ofNat cs.length))])) _
    refine XS.istoreN X106.here hx rfl (hb hby dj23_21) rfl (l' := #[.val (.ref t), .val (.int 35), .val (.int 0), .val (.int (Int32.ofNat cs.length))]) rfl ?_
    refine XS.iloadN X106.here hx rfl (hb hby dj23_22) rfl ?_
    refine XS.iloadN X106.here hx rfl (hb hby dj23_23) rfl ?_
    exact kk)
  by_cases hc109 : (0 : Int32) < (Int32.ofNat cs.length)
  · obtain ⟨v111, _, ⟨T111, L111, k111, n111⟩, -, X111, ⟨Lc111, hQ111, l111, y111, z111⟩, st111⟩ := Jvm.LawKit.callS X106 hx (y := mn23) hown (mvT hZ (wd91 hw)) (mvT hZ (wd92 hw)) (mvT hZ (wd62 hw)) (mvT hZ (wd93 hw)) (by decide) (backOf (W := 0) (rm_licX la Z a0 hw [] t kt cs hE n0 O P0_ ((own_lt8 (a := 0) (by omega) (by omega)).mp hc109 : 0 < cs.length) (h4 : cs.length ≤ 4) (hbl : ∀ c ∈ cs, ¬ c < 0 ∧ ¬ (255 : Int32) < c)) hZ (wd93 hw) (wd62 hw) (by decide) (by decide)) (g := (mkF mi 33 #[.val (.ref t), .val (.int 35), .val (.int 0), .val (.int (Int32.ofNat cs.length))] [(.int (Int32.ofNat cs.length)), (.int 0), (.int 35), (.ref t)])) rfl (by rw [hml]; rfl) (argsL := [(.ref t), (.int 35), (.int 0), (.int (Int32.ofNat cs.length))]) (rest := []) (lenOf pd_15 rfl) rfl (Nat.le_of_ble_eq_true rfl) (hb hby dj23_33) (fun _ _ => ⟨rfl, ek106, (by decide : 0 + 0 ≤ _), (by decide : 0 + 0 ≤ _)⟩)
    dsimp only [Pt.U, Pt.locs, Pt.cells, Pt.slots] at X111 l111 y111 z111 st111 hQ111
    subst l111 y111 z111
    obtain ⟨rfl, Nq111, ek111⟩ := hQ111
    have N111 := Fr.app N106 Nq111
    obtain ⟨fs, hr, hrun, hended, hW, hsame⟩ := X111.leave (v := some (.int (ixG 0 cs))) (fun hq => by rw [Bd.returns] at hq; cases hq)
    refine ⟨_, _, pre110 _ ?_, hrun, hended, _, _, rfl, ?_, ⟨_, rfl⟩, hW, hsame.mono (by decide) (by decide)⟩
    · show SP pg ev below (T106.setTop (mkF mi 24 #[.val (.ref t), .val (.int 35), .val (.int 0), .val (.int (Int32.ofNat cs.length))] [(.int (Int32.ofNat cs.length)), (.int 0)])) _
      refine XS.icmpYes X106.here hx rfl (pc0 := 24) (pc' := 29) rfl (hb hby dj23_24) rfl (tlt hc109).1 (by decide) (by decide) ?_
      refine XS.aloadN X106.here hx rfl (hb hby dj23_29) rfl rfl ?_
      refine XS.iloadN X106.here hx rfl (hb hby dj23_30) rfl ?_
      refine XS.iloadN X106.here hx rfl (hb hby dj23_31) rfl ?_
      refine XS.iloadN X106.here hx rfl (hb hby dj23_32) rfl ?_
      refine st111 _ ?_
      show SP pg ev below (T111.setTop (mkF mi 36 #[.val (.ref t), .val (.int 35), .val (.int 0), .val (.int (Int32.ofNat cs.length))] [(.int (ixG 0 cs))])) _
      exact retI X111 hx Bd.returns (hb hby dj23_36) hr
    · show Q_lio Z t kt cs hE n0 _ T111.heap _
      rw [ek111]
      exact ⟨rfl, N111, rfl⟩
  · obtain ⟨fs, hr, hrun, hended, hW, hsame⟩ := X106.leave (v := some (.int (-1))) (fun hq => by rw [Bd.returns] at hq; cases hq)
    refine ⟨_, _, pre110 _ ?_, hrun, hended, _, _, rfl, ?_, ⟨_, rfl⟩, hW, hsame.mono (by decide) (by decide)⟩
    · show SP pg ev below (T106.setTop (mkF mi 24 #[.val (.ref t), .val (.int 35), .val (.int 0), .val (.int (Int32.ofNat cs.length))] [(.int (Int32.ofNat cs.length)), (.int 0)])) _
      refine XS.icmpNo X106.here hx rfl (hb hby dj23_24) rfl (flt hc109).1 ?_
      refine XS.iconst X106.here hx rfl (hb hby dj23_27) ?_
      show SP pg ev below (T106.setTop (mkF mi 28 #[.val (.ref t), .val (.int 35), .val (.int 0), .val (.int (Int32.ofNat cs.length))] [(.int (-1))])) _
      exact retI X106 hx Bd.returns (hb hby dj23_28) hr
    · show Q_lio Z t kt cs hE n0 _ T106.heap _
      rw [ek106]
      exact ⟨(by obtain rfl : cs = [] := List.eq_nil_of_length_eq_zero (by have : ¬ (0 < cs.length) := fun q => hc109 ((own_lt8 (a := 0) (b := cs.length) (by omega) (by omega)).mpr q); omega); rfl), N106, rfl⟩
theorem dj24_0 : decode jc24 0 = .ok (.iload_n 2, 1) := by decide +kernel
theorem dj24_1 : decode jc24 1 = .ok (.iload_n 3, 1) := by decide +kernel
theorem dj24_2 : decode jc24 2 = .ok (.aload_n 0, 1) := by decide +kernel
theorem dj24_3 : decode jc24 3 = .ok (.invokestatic 96, 3) := by decide +kernel
theorem dj24_6 : decode jc24 6 = .ok (.aload_n 0, 1) := by decide +kernel
theorem dj24_7 : decode jc24 7 = .ok (.iload_n 1, 1) := by decide +kernel
theorem dj24_8 : decode jc24 8 = .ok (.iload_n 2, 1) := by decide +kernel
theorem dj24_9 : decode jc24 9 = .ok (.iload_n 3, 1) := by decide +kernel
theorem dj24_10 : decode jc24 10 = .ok (.invokestatic 244, 3) := by decide +kernel
theorem dj24_13 : decode jc24 13 = .ok (.ireturn, 1) := by decide +kernel
theorem pd_16 : parseMethodDescriptor "(II[B)V" = some ⟨[.int, .int, (.array .byte)], none⟩ := by decide +kernel
theorem ef_uic (mi : MethodId) (t : Addr) (cs : List Int32) : entryFrame mi #[(.ref t), (.int 35), (.int 0), (.int (Int32.ofNat cs.length))] 4 = mkF mi 0 #[.val (.ref t), .val (.int 35), .val (.int 0), .val (.int (Int32.ofNat cs.length))] [] := rfl
def Q_uic (Z : State) (t : Addr) (kt : ClassId) (cs : List Int32) (fm : Value) (hE : Heap) (n0 : Nat) (vv : Option Value) (hh : Heap) (LL : List Loc) : Prop := (vv = some (.int (ixG 0 cs))) ∧ (Fr n0 LL) ∧ (hh = hE)
theorem rm_uic (hw : HW a0 Z) (ws : List Cond) (t : Addr) (kt : ClassId) (cs : List Int32) (fm : Value) (hE : Heap) (n0 : Nat) (O : Old Z n0 hE) (P0_ : Arv Z hE t kt .byte (Int32.ofNat (2 * cs.length)) (StrChars.Road.wideBytes cs) (.int 0)) (D0_ : Sta Z Z.heap c1_ c6_ "Z" (.int 1)) (D1_ : Sta Z Z.heap c1_ c9_ "I" (.int 0)) (D2_ : Sta Z Z.heap c1_ c10_ "I" (.int 8)) (D3_ : Sta Z Z.heap c3_ c7_ c4_ fm) (h0 : 0 < cs.length) (h4 : cs.length ≤ 4) (hbd : ∀ c ∈ cs, ¬ c < 0 ∧ ¬ (65535 : Int32) < c) (hfm : fm.isRef = true) :
    MF la Z hE mn26 jc24 4 (some .int) ws (rr 3 0 0 43) #[(.ref t), (.int 35), (.int 0), (.int (Int32.ofNat cs.length))] (Q_uic Z t kt cs fm hE n0) := by
  refine MetFree.of_bodySF (plainFor_of_name pn_java_lang_StringUTF16) hisR ?_
  intro pg ev sb mi gs below me cd s₁ Bd hml0 hPt hKt
  obtain ⟨rfl, hZ, hh⟩ := hPt
  have hx := Bd.exec
  have hby := Bd.bytes
  have hml : cd.maxLocals = 4 := hml0
  have hown : sb.vm.findClass c1_ = some mi.cls := findClass_of_methodNamed Bd.named
  have X0 : Stand pg la ev (rr 3 0 0 43) sb mi #[(.ref t), (.int 35), (.int 0), (.int (Int32.ofNat cs.length))] below me cd s₁ [] 0 0 := Stand.of_body Bd
  have eE : s₁.heap = hE := by rw [← hh, Bd.state]; rfl
  have N0 := Fr.nil n0
  have pre0 : ∀ tt, SP pg ev below (s₁.setTop (mkF mi 0 #[.val (.ref t), .val (.int 35), .val (.int 0), .val (.int (Int32.ofNat cs.length))] [])) tt → SP pg ev below (s₁.setTop (entryFrame mi #[(.ref t), (.int 35), (.int 0), (.int (Int32.ofNat cs.length))] 4)) tt := fun tt kk => castTop (ef_uic mi t cs) kk
  obtain ⟨v101, _, ⟨T101, L101, k101, n101⟩, -, X101, ⟨Lc101, hQ101, l101, y101, z101⟩, st101⟩ := Jvm.LawKit.callS X0 hx (y := mn10) hown (mvT hZ (wd178 hw)) (mvT hZ (wd179 hw)) (mvT hZ (wd83 hw)) (mvT hZ (wd180 hw)) (by decide) (backOf (W := 0) (rm_ube la Z a0 hw [] (0 : Int32) (Int32.ofNat cs.length) t kt cs fm hE n0 O P0_ D3_ (by decide : ¬ ((0 : Int32) < (0 : Int32))) (own_nn8 (by omega) : ¬ ((Int32.ofNat cs.length) < (0 : Int32))) (by simp [Int32.lt_irrefl] : ¬ ((Int32.ofNat cs.length) < (Int32.ofNat cs.length))) (by omega : cs.length ≤ 4000) (hfm : fm.isRef = true)) hZ (wd180 hw) (wd83 hw) (by decide) (by decide)) (g := (mkF mi 3 #[.val (.ref t), .val (.int 35), .val (.int 0), .val (.int (Int32.ofNat cs.length))] [(.ref t), (.int (Int32.ofNat cs.length)), (.int 0)])) rfl (by rw [hml]; rfl) (argsL := [(.int 0), (.int (Int32.ofNat cs.length)), (.ref t)]) (rest := []) (lenOf pd_16 rfl) rfl (Nat.le_of_ble_eq_true rfl) (hb hby dj24_3) (fun _ _ => ⟨rfl, eE, (by decide : 0 + 0 ≤ _), (by decide : 0 + 0 ≤ _)⟩)
  dsimp only [Pt.U, Pt.locs, Pt.cells, Pt.slots] at X101 l101 y101 z101 st101 hQ101
  subst l101 y101 z101
  obtain ⟨rfl, Nq101, ek101⟩ := hQ101
  have N101 := Fr.app N0 Nq101
  obtain ⟨v102, _, ⟨T102, L102, k102, n102⟩, -, X102, ⟨Lc102, hQ102, l102, y102, z102⟩, st102⟩ := Jvm.LawKit.callS X101 hx (y := mn24) hown (mvT hZ (wd185 hw)) (mvT hZ (wd186 hw)) (mvT hZ (wd83 hw)) (mvT hZ (wd187 hw)) (by decide) (backOf (W := 0) (rm_uiuX la Z a0 hw [] t kt cs hE n0 O P0_ D0_ D1_ D2_ (h0 : 0 < cs.length) (h4 : cs.length ≤ 4) (hbd : ∀ c ∈ cs, ¬ c < 0 ∧ ¬ (65535 : Int32) < c)) hZ (wd187 hw) (wd83 hw) (by decide) (by decide)) (g := (mkF mi 10 #[.val (.ref t), .val (.int 35), .val (.int 0), .val (.int (Int32.ofNat cs.length))] [(.int (Int32.ofNat cs.length)), (.int 0), (.int 35), (.ref t)])) rfl (by rw [hml]; rfl) (argsL := [(.ref t), (.int 35), (.int 0), (.int (Int32.ofNat cs.length))]) (rest := []) (lenOf pd_15 rfl) rfl (Nat.le_of_ble_eq_true rfl) (hb hby dj24_10) (fun _ _ => ⟨rfl, ek101, (by decide : 0 + 0 ≤ _), (by decide : 0 + 0 ≤ _)⟩)
  dsimp only [Pt.U, Pt.locs, Pt.cells, Pt.slots] at X102 l102 y102 z102 st102 hQ102
  subst l102 y102 z102
  obtain ⟨rfl, Nq102, ek102⟩ := hQ102
  have N102 := Fr.app N101 Nq102
  obtain ⟨fs, hr, hrun, hended, hW, hsame⟩ := X102.leave (v := some (.int (ixG 0 cs))) (fun hq => by rw [Bd.returns] at hq; cases hq)
  refine ⟨_, _, pre0 _ ?_, hrun, hended, _, _, rfl, ?_, ⟨_, rfl⟩, hW, hsame.mono (by decide) (by decide)⟩
  · show SP pg ev below (s₁.setTop (mkF mi 0 #[.val (.ref t), .val (.int 35), .val (.int 0), .val (.int (Int32.ofNat cs.length))] [])) _
    refine XS.iloadN X0.here hx rfl (hb hby dj24_0) rfl ?_
    refine XS.iloadN X0.here hx rfl (hb hby dj24_1) rfl ?_
    refine XS.aloadN X0.here hx rfl (hb hby dj24_2) rfl rfl ?_
    refine st101 _ ?_
    refine XS.aloadN X101.here hx rfl (hb hby dj24_6) rfl rfl ?_
    refine XS.iloadN X101.here hx rfl (hb hby dj24_7) rfl ?_
    refine XS.iloadN X101.here hx rfl (hb hby dj24_8) rfl ?_
    refine XS.iloadN X101.here hx rfl (hb hby dj24_9) rfl ?_
    refine st102 _ ?_
    show SP pg ev below (T102.setTop (mkF mi 13 #[.val (.ref t), .val (.int 35), .val (.int 0), .val (.int (Int32.ofNat cs.length))] [(.int (ixG 0 cs))])) _
    exact retI X102 hx Bd.returns (hb hby dj24_13) hr
  · show Q_uic Z t kt cs fm hE n0 _ T102.heap _
    rw [ek102]
    exact ⟨rfl, N102, rfl⟩
theorem dj25_0 : decode jc25 0 = .ok (.iload_n 2, 1) := by decide +kernel
theorem dj25_1 : decode jc25 1 = .ok (.iconst 0, 1) := by decide +kernel
theorem dj25_2 : decode jc25 2 = .ok (.invokestatic 224, 3) := by decide +kernel
theorem dj25_5 : decode jc25 5 = .ok (.istore_n 2, 1) := by decide +kernel
theorem dj25_6 : decode jc25 6 = .ok (.iload_n 3, 1) := by decide +kernel
theorem dj25_7 : decode jc25 7 = .ok (.aload_n 0, 1) := by decide +kernel
theorem dj25_8 : decode jc25 8 = .ok (.arraylength, 1) := by decide +kernel
theorem dj25_9 : decode jc25 9 = .ok (.iconst 1, 1) := by decide +kernel
theorem dj25_10 : decode jc25 10 = .ok (.ishr, 1) := by decide +kernel
theorem dj25_11 : decode jc25 11 = .ok (.invokestatic 183, 3) := by decide +kernel
theorem dj25_14 : decode jc25 14 = .ok (.istore_n 3, 1) := by decide +kernel
theorem dj25_15 : decode jc25 15 = .ok (.iload_n 2, 1) := by decide +kernel
theorem dj25_16 : decode jc25 16 = .ok (.iload_n 3, 1) := by decide +kernel
theorem dj25_17 : decode jc25 17 = .ok (.if_icmp .lt 5, 3) := by decide +kernel
theorem dj25_22 : decode jc25 22 = .ok (.iload_n 1, 1) := by decide +kernel
theorem dj25_23 : decode jc25 23 = .ok (.ldc 227, 2) := by decide +kernel
theorem dj25_25 : decode jc25 25 = .ok (.if_icmp .ge 11, 3) := by decide +kernel
theorem dj25_28 : decode jc25 28 = .ok (.aload_n 0, 1) := by decide +kernel
theorem dj25_29 : decode jc25 29 = .ok (.iload_n 1, 1) := by decide +kernel
theorem dj25_30 : decode jc25 30 = .ok (.iload_n 2, 1) := by decide +kernel
theorem dj25_31 : decode jc25 31 = .ok (.iload_n 3, 1) := by decide +kernel
theorem dj25_32 : decode jc25 32 = .ok (.invokestatic 228, 3) := by decide +kernel
theorem dj25_35 : decode jc25 35 = .ok (.ireturn, 1) := by decide +kernel
theorem ef_uio (mi : MethodId) (t : Addr) (cs : List Int32) : entryFrame mi #[(.ref t), (.int 35), (.int 0), (.int (Int32.ofNat cs.length))] 4 = mkF mi 0 #[.val (.ref t), .val (.int 35), .val (.int 0), .val (.int (Int32.ofNat cs.length))] [] := rfl
def Q_uio (Z : State) (t : Addr) (kt : ClassId) (cs : List Int32) (fm : Value) (hE : Heap) (n0 : Nat) (vv : Option Value) (hh : Heap) (LL : List Loc) : Prop := (vv = some (.int (ixG 0 cs))) ∧ (Fr n0 LL) ∧ (hh = hE)
theorem rm_uio (hw : HW a0 Z) (ws : List Cond) (t : Addr) (kt : ClassId) (cs : List Int32) (fm : Value) (hE : Heap) (n0 : Nat) (O : Old Z n0 hE) (P0_ : Arv Z hE t kt .byte (Int32.ofNat (2 * cs.length)) (StrChars.Road.wideBytes cs) (.int 0)) (D0_ : Sta Z Z.heap c1_ c6_ "Z" (.int 1)) (D1_ : Sta Z Z.heap c1_ c9_ "I" (.int 0)) (D2_ : Sta Z Z.heap c1_ c10_ "I" (.int 8)) (D3_ : Sta Z Z.heap c3_ c7_ c4_ fm) (h0 : 0 < cs.length) (h4 : cs.length ≤ 4) (hbd : ∀ c ∈ cs, ¬ c < 0 ∧ ¬ (65535 : Int32) < c) (hfm : fm.isRef = true) :
    MF la Z hE mn27 jc25 4 (some .int) ws (rr 4 0 0 58) #[(.ref t), (.int 35), (.int 0), (.int (Int32.ofNat cs.length))] (Q_uio Z t kt cs fm hE n0) := by
  refine MetFree.of_bodySF (plainFor_of_name pn_java_lang_StringUTF16) hisR ?_
  intro pg ev sb mi gs below me cd s₁ Bd hml0 hPt hKt
  obtain ⟨rfl, hZ, hh⟩ := hPt
  have hx := Bd.exec
  have hby := Bd.bytes
  have hml : cd.maxLocals = 4 := hml0
  have hown : sb.vm.findClass c1_ = some mi.cls := findClass_of_methodNamed Bd.named
  have X0 : Stand pg la ev (rr 4 0 0 58) sb mi #[(.ref t), (.int 35), (.int 0), (.int (Int32.ofNat cs.length))] below me cd s₁ [] 0 0 := Stand.of_body Bd
  have eE : s₁.heap = hE := by rw [← hh, Bd.state]; rfl
  have N0 := Fr.nil n0
  have pre0 : ∀ tt, SP pg ev below (s₁.setTop (mkF mi 0 #[.val (.ref t), .val (.int 35), .val (.int 0), .val (.int (Int32.ofNat cs.length))] [])) tt → SP pg ev below (s₁.setTop (entryFrame mi #[(.ref t), (.int 35), (.int 0), (.int (Int32.ofNat cs.length))] 4)) tt := fun tt kk => castTop (ef_uio mi t cs) kk
  obtain ⟨v101, _, ⟨T101, L101, k101, n101⟩, -, X101, ⟨Lc101, hQ101, l101, y101, z101⟩, st101⟩ := Jvm.LawKit.callS X0 hx (y := mn5) hown (mvT hZ (wd172 hw)) (mvT hZ (wd68 hw)) (mvT hZ (wd69 hw)) (mvT hZ (wd70 hw)) (by decide) (backOf (W := 0) (rm_mmax la Z a0 hw [] (0 : Int32) (0 : Int32) hE n0 O) hZ (wd70 hw) (wd69 hw) (by decide) (by decide)) (g := (mkF mi 2 #[.val (.ref t), .val (.int 35), .val (.int 0), .val (.int (Int32.ofNat cs.length))] [(.int 0), (.int 0)])) rfl (by rw [hml]; rfl) (argsL := [(.int 0), (.int 0)]) (rest := []) (lenOf pd_14 rfl) rfl (Nat.le_of_ble_eq_true rfl) (hb hby dj25_2) (fun _ _ => ⟨rfl, eE, (by decide : 0 + 0 ≤ _), (by decide : 0 + 0 ≤ _)⟩)
  dsimp only [Pt.U, Pt.locs, Pt.cells, Pt.slots] at X101 l101 y101 z101 st101 hQ101
  subst l101 y101 z101
  obtain ⟨rfl, Nq101, ek101⟩ := hQ101
  have N101 := Fr.app N0 Nq101
  have pre102 : ∀ tt, SP pg ev below (T101.setTop (mkF mi 5 #[.val (.ref t), .val (.int 35), .val (.int 0), .val (.int (Int32.ofNat cs.length))] [(.int (if (0 : Int32) < (0 : Int32) then (0 : Int32) else (0 : Int32)))])) tt → SP pg ev below (s₁.setTop (entryFrame mi #[(.ref t), (.int 35), (.int 0), (.int (Int32.ofNat cs.length))] 4)) tt := fun tt kk => pre0 _ (by
    show SP pg ev below (s₁.setTop (mkF mi 0 #[.val (.ref t), .val (.int 35), .val (.int 0), .val (.int (Int32.ofNat cs.length))] [])) _
    refine XS.iloadN X0.here hx rfl (hb hby dj25_0) rfl ?_
    refine XS.iconst X0.here hx rfl (hb hby dj25_1) ?_
    refine st101 _ ?_
    exact kk)
  have pre103 : ∀ tt, SP pg ev below (T101.setTop (mkF mi 5 #[.val (.ref t), .val (.int 35), .val (.int 0), .val (.int (Int32.ofNat cs.length))] [(.int 0)])) tt → SP pg ev below (s₁.setTop (entryFrame mi #[(.ref t), (.int 35), (.int 0), (.int (Int32.ofNat cs.length))] 4)) tt := fun tt kk => pre102 tt (by rw [show (if (0 : Int32) < (0 : Int32) then (0 : Int32) else (0 : Int32)) = (0 : Int32) from by decide]; exact kk)
  obtain ⟨cl104, Ar104, -, Sz104, Nn104, -, -⟩ := id P0_
  have pre105 : ∀ tt, SP pg ev below (T101.setTop (mkF mi 11 #[.val (.ref t), .val (.int 35), .val (.int 0), .val (.int (Int32.ofNat cs.length))] [(.int ((Int32.ofNat (2 * cs.length)) >>> ((1 : Int32) &&& 31))), (.int (Int32.ofNat cs.length))])) tt → SP pg ev below (s₁.setTop (entryFrame mi #[(.ref t), (.int 35), (.int 0), (.int (Int32.ofNat cs.length))] 4)) tt := fun tt kk => pre103 _ (by
    show SP pg ev below (T101.setTop (mkF mi 5 #[.val (.ref t), .val (.int 35), .val (.int 0), .val (.int (Int32.ofNat cs.length))] [(.int 0)])) _
    refine XS.istoreN X101.here hx rfl (hb hby dj25_5) rfl (l' := #[.val (.ref t), .val (.int 35), .val (.int 0), .val (.int (Int32.ofNat cs.length))]) rfl ?_
    refine XS.iloadN X101.here hx rfl (hb hby dj25_6) rfl ?_
    refine XS.aloadN X101.here hx rfl (hb hby dj25_7) rfl rfl ?_
    refine X101.arraylength hx (cell := cl104) (by rw [ek101]; exact Ar104.1) (State.isArrayOf_alike hZ.alike Ar104.2.1) (g := (mkF mi 8 #[.val (.ref t), .val (.int 35), .val (.int 0), .val (.int (Int32.ofNat cs.length))] [(.ref t), (.int (Int32.ofNat cs.length))])) rfl (rest := [(.int (Int32.ofNat cs.length))]) rfl (hb hby dj25_8) _ ?_
    rw [len_of Sz104 Nn104]
    refine XS.iconst X101.here hx rfl (hb hby dj25_9) ?_
    refine XS.ishr X101.here hx rfl (hb hby dj25_10) rfl ?_
    exact kk)
  have pre106 : ∀ tt, SP pg ev below (T101.setTop (mkF mi 11 #[.val (.ref t), .val (.int 35), .val (.int 0), .val (.int (Int32.ofNat cs.length))] [(.int (Int32.ofNat cs.length)), (.int (Int32.ofNat cs.length))])) tt → SP pg ev below (s₁.setTop (entryFrame mi #[(.ref t), (.int 35), (.int 0), (.int (Int32.ofNat cs.length))] 4)) tt := fun tt kk => pre105 tt (by rw [show ((Int32.ofNat (2 * cs.length)) >>> ((1 : Int32) &&& 31)) = (Int32.ofNat cs.length) from own_shr1 (by omega)]; exact kk)
  obtain ⟨v107, _, ⟨T107, L107, k107, n107⟩, -, X107, ⟨Lc107, hQ107, l107, y107, z107⟩, st107⟩ := Jvm.LawKit.callS X101 hx (y := mn6) hown (mvT hZ (wd173 hw)) (mvT hZ (wd72 hw)) (mvT hZ (wd69 hw)) (mvT hZ (wd73 hw)) (by decide) (backOf (W := 0) (rm_mmin la Z a0 hw [] (Int32.ofNat cs.length) (Int32.ofNat cs.length) hE n0 O) hZ (wd73 hw) (wd69 hw) (by decide) (by decide)) (g := (mkF mi 11 #[.val (.ref t), .val (.int 35), .val (.int 0), .val (.int (Int32.ofNat cs.length))] [(.int (Int32.ofNat cs.length)), (.int (Int32.ofNat cs.length))])) rfl (by rw [hml]; rfl) (argsL := [(.int (Int32.ofNat cs.length)), (.int (Int32.ofNat cs.length))]) (rest := []) (lenOf pd_14 rfl) rfl (Nat.le_of_ble_eq_true rfl) (hb hby dj25_11) (fun _ _ => ⟨rfl, ek101, (by decide : 0 + 0 ≤ _), (by decide : 0 + 0 ≤ _)⟩)
  dsimp only [Pt.U, Pt.locs, Pt.cells, Pt.slots] at X107 l107 y107 z107 st107 hQ107
  subst l107 y107 z107
  obtain ⟨rfl, Nq107, ek107⟩ := hQ107
  have N107 := Fr.app N101 Nq107
  have pre108 : ∀ tt, SP pg ev below (T107.setTop (mkF mi 14 #[.val (.ref t), .val (.int 35), .val (.int 0), .val (.int (Int32.ofNat cs.length))] [(.int (if (Int32.ofNat cs.length) < (Int32.ofNat cs.length) then (Int32.ofNat cs.length) else (Int32.ofNat cs.length)))])) tt → SP pg ev below (s₁.setTop (entryFrame mi #[(.ref t), (.int 35), (.int 0), (.int (Int32.ofNat cs.length))] 4)) tt := fun tt kk => pre106 _ (by
    show SP pg ev below (T101.setTop (mkF mi 11 #[.val (.ref t), .val (.int 35), .val (.int 0), .val (.int (Int32.ofNat cs.length))] [(.int (Int32.ofNat cs.length)), (.int (Int32.ofNat cs.length))])) _
    refine st107 _ ?_
    exact kk)
  have pre109 : ∀ tt, SP pg ev below (T107.setTop (mkF mi 14 #[.val (.ref t), .val (.int 35), .val (.int 0), .val (.int (Int32.ofNat cs.length))] [(.int (Int32.ofNat cs.length))])) tt → SP pg ev below (s₁.setTop (entryFrame mi #[(.ref t), (.int 35), (.int 0), (.int (Int32.ofNat cs.length))] 4)) tt := fun tt kk => pre108 tt (by rw [show (if (Int32.ofNat cs.length) < (Int32.ofNat cs.length) then (Int32.ofNat cs.length) else (Int32.ofNat cs.length)) = (Int32.ofNat cs.length) from by split <;> rfl]; exact kk)
  obtain ⟨v110, _, ⟨T110, L110, k110, n110⟩, -, X110, ⟨Lc110, hQ110, l110, y110, z110⟩, st110⟩ := Jvm.LawKit.callS X107 hx (y := mn26) hown (mvT hZ (wd175 hw)) (mvT hZ (wd176 hw)) (mvT hZ (wd83 hw)) (mvT hZ (wd177 hw)) (by decide) (backOf (W := 0) (rm_uic la Z a0 hw [] t kt cs fm hE n0 O P0_ D0_ D1_ D2_ D3_ (h0 : 0 < cs.length) (h4 : cs.length ≤ 4) (hbd : ∀ c ∈ cs, ¬ c < 0 ∧ ¬ (65535 : Int32) < c) (hfm : fm.isRef = true)) hZ (wd177 hw) (wd83 hw) (by decide) (by decide)) (g := (mkF mi 32 #[.val (.ref t), .val (.int 35), .val (.int 0), .val (.int (Int32.ofNat cs.length))] [(.int (Int32.ofNat cs.length)), (.int 0), (.int 35), (.ref t)])) rfl (by rw [hml]; rfl) (argsL := [(.ref t), (.int 35), (.int 0), (.int (Int32.ofNat cs.length))]) (rest := []) (lenOf pd_15 rfl) rfl (Nat.le_of_ble_eq_true rfl) (hb hby dj25_32) (fun _ _ => ⟨rfl, ek107, (by decide : 0 + 0 ≤ _), (by decide : 0 + 0 ≤ _)⟩)
  dsimp only [Pt.U, Pt.locs, Pt.cells, Pt.slots] at X110 l110 y110 z110 st110 hQ110
  subst l110 y110 z110
  obtain ⟨rfl, Nq110, ek110⟩ := hQ110
  have N110 := Fr.app N107 Nq110
  obtain ⟨fs, hr, hrun, hended, hW, hsame⟩ := X110.leave (v := some (.int (ixG 0 cs))) (fun hq => by rw [Bd.returns] at hq; cases hq)
  refine ⟨_, _, pre109 _ ?_, hrun, hended, _, _, rfl, ?_, ⟨_, rfl⟩, hW, hsame.mono (by decide) (by decide)⟩
  · show SP pg ev below (T107.setTop (mkF mi 14 #[.val (.ref t), .val (.int 35), .val (.int 0), .val (.int (Int32.ofNat cs.length))] [(.int (Int32.ofNat cs.length))])) _
    refine XS.istoreN X107.here hx rfl (hb hby dj25_14) rfl (l' := #[.val (.ref t), .val (.int 35), .val (.int 0), .val (.int (Int32.ofNat cs.length))]) rfl ?_
    refine XS.iloadN X107.here hx rfl (hb hby dj25_15) rfl ?_
    refine XS.iloadN X107.here hx rfl (hb hby dj25_16) rfl ?_
    refine XS.icmpYes X107.here hx rfl (pc0 := 17) (pc' := 22) rfl (hb hby dj25_17) rfl (tlt ((own_lt8 (a := 0) (b := cs.length) (by omega) (by omega)).mpr h0)).1 (by decide) (by decide) ?_
    refine XS.iloadN X107.here hx rfl (hb hby dj25_22) rfl ?_
    refine X107.ldcInt hx hown (mvT hZ (wd174 hw)) (g := (mkF mi 23 #[.val (.ref t), .val (.int 35), .val (.int 0), .val (.int (Int32.ofNat cs.length))] [(.int 35)])) rfl (hb hby dj25_23) _ ?_
    refine XS.icmpNo X107.here hx rfl (hb hby dj25_25) rfl (tlt (by decide : (35 : Int32) < (65536 : Int32))).2.1 ?_
    refine XS.aloadN X107.here hx rfl (hb hby dj25_28) rfl rfl ?_
    refine XS.iloadN X107.here hx rfl (hb hby dj25_29) rfl ?_
    refine XS.iloadN X107.here hx rfl (hb hby dj25_30) rfl ?_
    refine XS.iloadN X107.here hx rfl (hb hby dj25_31) rfl ?_
    refine st110 _ ?_
    show SP pg ev below (T110.setTop (mkF mi 35 #[.val (.ref t), .val (.int 35), .val (.int 0), .val (.int (Int32.ofNat cs.length))] [(.int (ixG 0 cs))])) _
    exact retI X110 hx Bd.returns (hb hby dj25_35) hr
  · show Q_uio Z t kt cs fm hE n0 _ T110.heap _
    rw [ek110]
    exact ⟨rfl, N110, rfl⟩
theorem dj26_0 : decode jc26 0 = .ok (.aload_n 0, 1) := by decide +kernel
theorem dj26_1 : decode jc26 1 = .ok (.invokevirtual 492, 3) := by decide +kernel
theorem dj26_4 : decode jc26 4 = .ok (.ifCond .eq 19, 3) := by decide +kernel
theorem dj26_7 : decode jc26 7 = .ok (.aload_n 0, 1) := by decide +kernel
theorem dj26_8 : decode jc26 8 = .ok (.getfield 9, 3) := by decide +kernel
theorem dj26_11 : decode jc26 11 = .ok (.iload_n 1, 1) := by decide +kernel
theorem dj26_12 : decode jc26 12 = .ok (.iload_n 2, 1) := by decide +kernel
theorem dj26_13 : decode jc26 13 = .ok (.aload_n 0, 1) := by decide +kernel
theorem dj26_14 : decode jc26 14 = .ok (.invokevirtual 505, 3) := by decide +kernel
theorem dj26_17 : decode jc26 17 = .ok (.invokestatic 637, 3) := by decide +kernel
theorem dj26_20 : decode jc26 20 = .ok (.goto 16, 3) := by decide +kernel
theorem dj26_23 : decode jc26 23 = .ok (.aload_n 0, 1) := by decide +kernel
theorem dj26_24 : decode jc26 24 = .ok (.getfield 9, 3) := by decide +kernel
theorem dj26_27 : decode jc26 27 = .ok (.iload_n 1, 1) := by decide +kernel
theorem dj26_28 : decode jc26 28 = .ok (.iload_n 2, 1) := by decide +kernel
theorem dj26_29 : decode jc26 29 = .ok (.aload_n 0, 1) := by decide +kernel
theorem dj26_30 : decode jc26 30 = .ok (.invokevirtual 505, 3) := by decide +kernel
theorem dj26_33 : decode jc26 33 = .ok (.invokestatic 640, 3) := by decide +kernel
theorem dj26_36 : decode jc26 36 = .ok (.ireturn, 1) := by decide +kernel
theorem pd_17 : parseMethodDescriptor "()Z" = some ⟨[], some .boolean⟩ := by decide +kernel
theorem pd_18 : parseMethodDescriptor "()I" = some ⟨[], some .int⟩ := by decide +kernel
theorem ef_six (mi : MethodId) (x : Addr) : entryFrame mi #[(.ref x), (.int 35), (.int 0)] 3 = mkF mi 0 #[.val (.ref x), .val (.int 35), .val (.int 0)] [] := rfl
def Q_six (Z : State) (x t : Addr) (cs : List Int32) (zc : Int32) (fm : Value) (hE : Heap) (n0 : Nat) (vv : Option Value) (hh : Heap) (LL : List Loc) : Prop := (vv = some (.int (ixG 0 cs))) ∧ (Fr n0 LL) ∧ (hh = hE)
theorem rm_six (hw : HW a0 Z) (ws : List Cond) (x t : Addr) (cs : List Int32) (zc : Int32) (fm : Value) (hE : Heap) (n0 : Nat) (O : Old Z n0 hE) (P0_ : WStr Z hE x t cs) (D0_ : Sta Z Z.heap c0_ c8_ "Z" (.int zc)) (D1_ : Sta Z Z.heap c3_ c7_ c4_ fm) (D2_ : Sta Z Z.heap c1_ c6_ "Z" (.int 1)) (D3_ : Sta Z Z.heap c1_ c9_ "I" (.int 0)) (D4_ : Sta Z Z.heap c1_ c10_ "I" (.int 8)) (h4 : cs.length ≤ 4) (hzc : ¬ (zc = (0 : Int32))) (hfm : fm.isRef = true) :
    MF la Z hE mn28 jc26 3 (some .int) ws (rr 5 0 0 73) #[(.ref x), (.int 35), (.int 0)] (Q_six Z x t cs zc fm hE n0) := by
  refine MetFree.of_bodySF (plainFor_of_name pn_java_lang_String) hisR ?_
  intro pg ev sb mi gs below me cd s₁ Bd hml0 hPt hKt
  obtain ⟨rfl, hZ, hh⟩ := hPt
  have hx := Bd.exec
  have hby := Bd.bytes
  have hml : cd.maxLocals = 3 := hml0
  have hown : sb.vm.findClass c0_ = some mi.cls := findClass_of_methodNamed Bd.named
  have X0 : Stand pg la ev (rr 5 0 0 73) sb mi #[(.ref x), (.int 35), (.int 0)] below me cd s₁ [] 0 0 := Stand.of_body Bd
  have eE : s₁.heap = hE := by rw [← hh, Bd.state]; rfl
  have N0 := Fr.nil n0
  have pre0 : ∀ tt, SP pg ev below (s₁.setTop (mkF mi 0 #[.val (.ref x), .val (.int 35), .val (.int 0)] [])) tt → SP pg ev below (s₁.setTop (entryFrame mi #[(.ref x), (.int 35), (.int 0)] 3)) tt := fun tt kk => castTop (ef_six mi x) kk
  obtain ⟨wE101, wV101, ⟨cd101, N2101, vs101, kb101, wC101, wK101, wc101⟩, wb101, wl101⟩ := id P0_
  rcases wc101 with ⟨rfl, rfl, rfl, hq101⟩ | ⟨rfl, rfl, rfl, hq101⟩
  · obtain ⟨cq102, kq102, q102a, q102b, q102c⟩ := isOf hZ eE wE101
    obtain ⟨v102, _, ⟨T102, L102, k102, n102⟩, -, X102, ⟨Lc102, hQ102, l102, y102, z102⟩, st102⟩ := X0.virtualBack hx (y := mn4) (z := mn4) hown (mvT hZ (wd44 hw)) (mvT hZ (wd45 hw)) (notFace_of_selects (args := #[]) (mvT hZ (wd47 hw))) (mvT hZ (wd47 hw)) (mvT hZ (wd46 hw)) (by decide) (backOf (W := 0) (rm_islA la Z a0 hw [] x zc hE n0 O wC101 D0_ (hzc : ¬ (zc = (0 : Int32)))) hZ (wd48 hw) (wd11 hw) (by decide) (by decide)) q102a q102c (g := (mkF mi 1 #[.val (.ref x), .val (.int 35), .val (.int 0)] [(.ref x)])) rfl (by rw [hml]; rfl) (Steps.refl _) (argsL := []) (rest := []) (lenOf pd_17 rfl) rfl (Nat.le_of_ble_eq_true rfl) (hb hby dj26_1) (fun _ _ => ⟨rfl, eE, (by decide : 0 + 0 ≤ _), (by decide : 0 + 0 ≤ _)⟩)
    dsimp only [Pt.U, Pt.locs, Pt.cells, Pt.slots] at X102 l102 y102 z102 st102 hQ102
    subst l102 y102 z102
    obtain ⟨rfl, Nq102, ek102⟩ := hQ102
    have N102 := Fr.app N0 Nq102
    obtain ⟨T103, X103, e103, st103⟩ := getF X102 hx hZ hown (host := "") (Or.inl (wd28 hw)) Via.refl ek102 wV101 (g := (mkF mi 8 #[.val (.ref x), .val (.int 35), .val (.int 0)] [(.ref x)])) rfl rfl (hb hby dj26_8)
    obtain ⟨cq104, kq104, q104a, q104b, q104c⟩ := isOf hZ e103 wE101
    obtain ⟨v104, _, ⟨T104, L104, k104, n104⟩, -, X104, ⟨Lc104, hQ104, l104, y104, z104⟩, st104⟩ := X103.virtualBack hx (y := mn3) (z := mn3) hown (mvT hZ (wd50 hw)) (mvT hZ (wd51 hw)) (notFace_of_selects (args := #[]) (mvT hZ (wd53 hw))) (mvT hZ (wd53 hw)) (mvT hZ (wd52 hw)) (by decide) (backOf (W := 3) (rm_wlen la Z a0 hw [] x t cs zc hE n0 O P0_ D0_ (hzc : ¬ (zc = (0 : Int32)))) hZ (wd54 hw) (wd11 hw) (by decide) (by decide)) q104a q104c (g := (mkF mi 14 #[.val (.ref x), .val (.int 35), .val (.int 0)] [(.ref x), (.int 0), (.int 35), (.ref t)])) rfl (by rw [hml]; rfl) (Steps.refl _) (argsL := []) (rest := [(.int 0), (.int 35), (.ref t)]) (lenOf pd_18 rfl) rfl (Nat.le_of_ble_eq_true rfl) (hb hby dj26_14) (fun _ _ => ⟨rfl, e103, (by decide : 0 + 0 ≤ _), (by decide : 0 + 0 ≤ _)⟩)
    dsimp only [Pt.U, Pt.locs, Pt.cells, Pt.slots] at X104 l104 y104 z104 st104 hQ104
    subst l104 y104 z104
    obtain ⟨rfl, Nq104, ek104⟩ := hQ104
    have N104 := Fr.app N102 Nq104
    obtain ⟨v105, _, ⟨T105, L105, k105, n105⟩, -, X105, ⟨Lc105, hQ105, l105, y105, z105⟩, st105⟩ := Jvm.LawKit.callS X104 hx (y := mn25) hown (mvT hZ (wd60 hw)) (mvT hZ (wd61 hw)) (mvT hZ (wd62 hw)) (mvT hZ (wd63 hw)) (by decide) (backOf (W := 0) (rm_lio la Z a0 hw [] t kb101 cs hE n0 O wK101 (h4 : cs.length ≤ 4) (fun c hc => ⟨(wb101 c hc).1, hq101 c hc⟩ : ∀ c ∈ cs, ¬ c < 0 ∧ ¬ (255 : Int32) < c)) hZ (wd63 hw) (wd62 hw) (by decide) (by decide)) (g := (mkF mi 17 #[.val (.ref x), .val (.int 35), .val (.int 0)] [(.int (Int32.ofNat cs.length)), (.int 0), (.int 35), (.ref t)])) rfl (by rw [hml]; rfl) (argsL := [(.ref t), (.int 35), (.int 0), (.int (Int32.ofNat cs.length))]) (rest := []) (lenOf pd_15 rfl) rfl (Nat.le_of_ble_eq_true rfl) (hb hby dj26_17) (fun _ _ => ⟨rfl, ek104, (by decide : 0 + 0 ≤ _), (by decide : 0 + 0 ≤ _)⟩)
    dsimp only [Pt.U, Pt.locs, Pt.cells, Pt.slots] at X105 l105 y105 z105 st105 hQ105
    subst l105 y105 z105
    obtain ⟨rfl, Nq105, ek105⟩ := hQ105
    have N105 := Fr.app N104 Nq105
    obtain ⟨fs, hr, hrun, hended, hW, hsame⟩ := X105.leave (v := some (.int (ixG 0 cs))) (fun hq => by rw [Bd.returns] at hq; cases hq)
    refine ⟨_, _, pre0 _ ?_, hrun, hended, _, _, rfl, ?_, ⟨_, rfl⟩, hW, hsame.mono (by decide) (by decide)⟩
    · show SP pg ev below (s₁.setTop (mkF mi 0 #[.val (.ref x), .val (.int 35), .val (.int 0)] [])) _
      refine XS.aloadN X0.here hx rfl (hb hby dj26_0) rfl rfl ?_
      refine st102.trans ?_
      refine XS.ifNo X102.here hx rfl (hb hby dj26_4) rfl ((if0 _ _).trans (feq (by decide : ¬ ((1 : Int32) = (0 : Int32)))).1) ?_
      refine XS.aloadN X102.here hx rfl (hb hby dj26_7) rfl rfl ?_
      refine st103 _ ?_
      refine XS.iloadN X103.here hx rfl (hb hby dj26_11) rfl ?_
      refine XS.iloadN X103.here hx rfl (hb hby dj26_12) rfl ?_
      refine XS.aloadN X103.here hx rfl (hb hby dj26_13) rfl rfl ?_
      refine st104.trans ?_
      refine st105 _ ?_
      refine XS.goto X105.here hx rfl (pc0 := 20) (pc' := 36) rfl (hb hby dj26_20) (by decide) (by decide) ?_
      show SP pg ev below (T105.setTop (mkF mi 36 #[.val (.ref x), .val (.int 35), .val (.int 0)] [(.int (ixG 0 cs))])) _
      exact retI X105 hx Bd.returns (hb hby dj26_36) hr
    · show Q_six Z x t cs zc fm hE n0 _ T105.heap _
      rw [ek105]
      exact ⟨rfl, N105, rfl⟩
  · obtain ⟨cq106, kq106, q106a, q106b, q106c⟩ := isOf hZ eE wE101
    obtain ⟨v106, _, ⟨T106, L106, k106, n106⟩, -, X106, ⟨Lc106, hQ106, l106, y106, z106⟩, st106⟩ := X0.virtualBack hx (y := mn4) (z := mn4) hown (mvT hZ (wd44 hw)) (mvT hZ (wd45 hw)) (notFace_of_selects (args := #[]) (mvT hZ (wd47 hw))) (mvT hZ (wd47 hw)) (mvT hZ (wd46 hw)) (by decide) (backOf (W := 0) (rm_islB la Z a0 hw [] x zc hE n0 O wC101 D0_ (hzc : ¬ (zc = (0 : Int32)))) hZ (wd48 hw) (wd11 hw) (by decide) (by decide)) q106a q106c (g := (mkF mi 1 #[.val (.ref x), .val (.int 35), .val (.int 0)] [(.ref x)])) rfl (by rw [hml]; rfl) (Steps.refl _) (argsL := []) (rest := []) (lenOf pd_17 rfl) rfl (Nat.le_of_ble_eq_true rfl) (hb hby dj26_1) (fun _ _ => ⟨rfl, eE, (by decide : 0 + 0 ≤ _), (by decide : 0 + 0 ≤ _)⟩)
    dsimp only [Pt.U, Pt.locs, Pt.cells, Pt.slots] at X106 l106 y106 z106 st106 hQ106
    subst l106 y106 z106
    obtain ⟨rfl, Nq106, ek106⟩ := hQ106
    have N106 := Fr.app N0 Nq106
    obtain ⟨T107, X107, e107, st107⟩ := getF X106 hx hZ hown (host := "") (Or.inl (wd28 hw)) Via.refl ek106 wV101 (g := (mkF mi 24 #[.val (.ref x), .val (.int 35), .val (.int 0)] [(.ref x)])) rfl rfl (hb hby dj26_24)
    obtain ⟨cq108, kq108, q108a, q108b, q108c⟩ := isOf hZ e107 wE101
    obtain ⟨v108, _, ⟨T108, L108, k108, n108⟩, -, X108, ⟨Lc108, hQ108, l108, y108, z108⟩, st108⟩ := X107.virtualBack hx (y := mn3) (z := mn3) hown (mvT hZ (wd50 hw)) (mvT hZ (wd51 hw)) (notFace_of_selects (args := #[]) (mvT hZ (wd53 hw))) (mvT hZ (wd53 hw)) (mvT hZ (wd52 hw)) (by decide) (backOf (W := 3) (rm_wlen la Z a0 hw [] x t cs zc hE n0 O P0_ D0_ (hzc : ¬ (zc = (0 : Int32)))) hZ (wd54 hw) (wd11 hw) (by decide) (by decide)) q108a q108c (g := (mkF mi 30 #[.val (.ref x), .val (.int 35), .val (.int 0)] [(.ref x), (.int 0), (.int 35), (.ref t)])) rfl (by rw [hml]; rfl) (Steps.refl _) (argsL := []) (rest := [(.int 0), (.int 35), (.ref t)]) (lenOf pd_18 rfl) rfl (Nat.le_of_ble_eq_true rfl) (hb hby dj26_30) (fun _ _ => ⟨rfl, e107, (by decide : 0 + 0 ≤ _), (by decide : 0 + 0 ≤ _)⟩)
    dsimp only [Pt.U, Pt.locs, Pt.cells, Pt.slots] at X108 l108 y108 z108 st108 hQ108
    subst l108 y108 z108
    obtain ⟨rfl, Nq108, ek108⟩ := hQ108
    have N108 := Fr.app N106 Nq108
    obtain ⟨v109, _, ⟨T109, L109, k109, n109⟩, -, X109, ⟨Lc109, hQ109, l109, y109, z109⟩, st109⟩ := Jvm.LawKit.callS X108 hx (y := mn27) hown (mvT hZ (wd169 hw)) (mvT hZ (wd170 hw)) (mvT hZ (wd83 hw)) (mvT hZ (wd171 hw)) (by decide) (backOf (W := 0) (rm_uio la Z a0 hw [] t kb101 cs fm hE n0 O wK101 D2_ D3_ D4_ D1_ (hq101.elim fun c h => List.length_pos_of_mem h.1 : 0 < cs.length) (h4 : cs.length ≤ 4) (wb101 : ∀ c ∈ cs, ¬ c < 0 ∧ ¬ (65535 : Int32) < c) (hfm : fm.isRef = true)) hZ (wd171 hw) (wd83 hw) (by decide) (by decide)) (g := (mkF mi 33 #[.val (.ref x), .val (.int 35), .val (.int 0)] [(.int (Int32.ofNat cs.length)), (.int 0), (.int 35), (.ref t)])) rfl (by rw [hml]; rfl) (argsL := [(.ref t), (.int 35), (.int 0), (.int (Int32.ofNat cs.length))]) (rest := []) (lenOf pd_15 rfl) rfl (Nat.le_of_ble_eq_true rfl) (hb hby dj26_33) (fun _ _ => ⟨rfl, ek108, (by decide : 0 + 0 ≤ _), (by decide : 0 + 0 ≤ _)⟩)
    dsimp only [Pt.U, Pt.locs, Pt.cells, Pt.slots] at X109 l109 y109 z109 st109 hQ109
    subst l109 y109 z109
    obtain ⟨rfl, Nq109, ek109⟩ := hQ109
    have N109 := Fr.app N108 Nq109
    obtain ⟨fs, hr, hrun, hended, hW, hsame⟩ := X109.leave (v := some (.int (ixG 0 cs))) (fun hq => by rw [Bd.returns] at hq; cases hq)
    refine ⟨_, _, pre0 _ ?_, hrun, hended, _, _, rfl, ?_, ⟨_, rfl⟩, hW, hsame.mono (by decide) (by decide)⟩
    · show SP pg ev below (s₁.setTop (mkF mi 0 #[.val (.ref x), .val (.int 35), .val (.int 0)] [])) _
      refine XS.aloadN X0.here hx rfl (hb hby dj26_0) rfl rfl ?_
      refine st106.trans ?_
      refine XS.ifYes X106.here hx rfl (pc0 := 4) (pc' := 23) rfl (hb hby dj26_4) rfl ((if0 _ _).trans (teq (rfl : (0 : Int32) = (0 : Int32))).1) (by decide) (by decide) ?_
      refine XS.aloadN X106.here hx rfl (hb hby dj26_23) rfl rfl ?_
      refine st107 _ ?_
      refine XS.iloadN X107.here hx rfl (hb hby dj26_27) rfl ?_
      refine XS.iloadN X107.here hx rfl (hb hby dj26_28) rfl ?_
      refine XS.aloadN X107.here hx rfl (hb hby dj26_29) rfl rfl ?_
      refine st108.trans ?_
      refine st109 _ ?_
      show SP pg ev below (T109.setTop (mkF mi 36 #[.val (.ref x), .val (.int 35), .val (.int 0)] [(.int (ixG 0 cs))])) _
      exact retI X109 hx Bd.returns (hb hby dj26_36) hr
    · show Q_six Z x t cs zc fm hE n0 _ T109.heap _
      rw [ek109]
      exact ⟨rfl, N109, rfl⟩
theorem dj27_0 : decode jc27 0 = .ok (.aload_n 0, 1) := by decide +kernel
theorem dj27_1 : decode jc27 1 = .ok (.iload_n 1, 1) := by decide +kernel
theorem dj27_2 : decode jc27 2 = .ok (.iconst 0, 1) := by decide +kernel
theorem dj27_3 : decode jc27 3 = .ok (.invokevirtual 633, 3) := by decide +kernel
theorem dj27_6 : decode jc27 6 = .ok (.ireturn, 1) := by decide +kernel
theorem ef_siy (mi : MethodId) (x : Addr) : entryFrame mi #[(.ref x), (.int 35)] 2 = mkF mi 0 #[.val (.ref x), .val (.int 35)] [] := rfl
def Q_siy (Z : State) (x t : Addr) (cs : List Int32) (zc : Int32) (fm : Value) (hE : Heap) (n0 : Nat) (vv : Option Value) (hh : Heap) (LL : List Loc) : Prop := (vv = some (.int (ixG 0 cs))) ∧ (Fr n0 LL) ∧ (hh = hE)
theorem rm_siy (hw : HW a0 Z) (ws : List Cond) (x t : Addr) (cs : List Int32) (zc : Int32) (fm : Value) (hE : Heap) (n0 : Nat) (O : Old Z n0 hE) (P0_ : WStr Z hE x t cs) (D0_ : Sta Z Z.heap c0_ c8_ "Z" (.int zc)) (D1_ : Sta Z Z.heap c3_ c7_ c4_ fm) (D2_ : Sta Z Z.heap c1_ c6_ "Z" (.int 1)) (D3_ : Sta Z Z.heap c1_ c9_ "I" (.int 0)) (D4_ : Sta Z Z.heap c1_ c10_ "I" (.int 8)) (h4 : cs.length ≤ 4) (hzc : ¬ (zc = (0 : Int32))) (hfm : fm.isRef = true) :
    MF la Z hE mn29 jc27 2 (some .int) ws (rr 6 0 0 87) #[(.ref x), (.int 35)] (Q_siy Z x t cs zc fm hE n0) := by
  refine MetFree.of_bodySF (plainFor_of_name pn_java_lang_String) hisR ?_
  intro pg ev sb mi gs below me cd s₁ Bd hml0 hPt hKt
  obtain ⟨rfl, hZ, hh⟩ := hPt
  have hx := Bd.exec
  have hby := Bd.bytes
  have hml : cd.maxLocals = 2 := hml0
  have hown : sb.vm.findClass c0_ = some mi.cls := findClass_of_methodNamed Bd.named
  have X0 : Stand pg la ev (rr 6 0 0 87) sb mi #[(.ref x), (.int 35)] below me cd s₁ [] 0 0 := Stand.of_body Bd
  have eE : s₁.heap = hE := by rw [← hh, Bd.state]; rfl
  have N0 := Fr.nil n0
  have pre0 : ∀ tt, SP pg ev below (s₁.setTop (mkF mi 0 #[.val (.ref x), .val (.int 35)] [])) tt → SP pg ev below (s₁.setTop (entryFrame mi #[(.ref x), (.int 35)] 2)) tt := fun tt kk => castTop (ef_siy mi x) kk
  obtain ⟨cq101, kq101, q101a, q101b, q101c⟩ := isOf hZ eE (P0_).1
  obtain ⟨v101, _, ⟨T101, L101, k101, n101⟩, -, X101, ⟨Lc101, hQ101, l101, y101, z101⟩, st101⟩ := X0.virtualBack hx (y := mn28) (z := mn28) hown (mvT hZ (wd39 hw)) (mvT hZ (wd40 hw)) (notFace_of_selects (args := #[]) (mvT hZ (wd42 hw))) (mvT hZ (wd42 hw)) (mvT hZ (wd41 hw)) (by decide) (backOf (W := 0) (rm_six la Z a0 hw [] x t cs zc fm hE n0 O P0_ D0_ D1_ D2_ D3_ D4_ (h4 : cs.length ≤ 4) (hzc : ¬ (zc = (0 : Int32))) (hfm : fm.isRef = true)) hZ (wd43 hw) (wd11 hw) (by decide) (by decide)) q101a q101c (g := (mkF mi 3 #[.val (.ref x), .val (.int 35)] [(.int 0), (.int 35), (.ref x)])) rfl (by rw [hml]; rfl) (Steps.refl _) (argsL := [(.int 35), (.int 0)]) (rest := []) (lenOf pd_14 rfl) rfl (Nat.le_of_ble_eq_true rfl) (hb hby dj27_3) (fun _ _ => ⟨rfl, eE, (by decide : 0 + 0 ≤ _), (by decide : 0 + 0 ≤ _)⟩)
  dsimp only [Pt.U, Pt.locs, Pt.cells, Pt.slots] at X101 l101 y101 z101 st101 hQ101
  subst l101 y101 z101
  obtain ⟨rfl, Nq101, ek101⟩ := hQ101
  have N101 := Fr.app N0 Nq101
  obtain ⟨fs, hr, hrun, hended, hW, hsame⟩ := X101.leave (v := some (.int (ixG 0 cs))) (fun hq => by rw [Bd.returns] at hq; cases hq)
  refine ⟨_, _, pre0 _ ?_, hrun, hended, _, _, rfl, ?_, ⟨_, rfl⟩, hW, hsame.mono (by decide) (by decide)⟩
  · show SP pg ev below (s₁.setTop (mkF mi 0 #[.val (.ref x), .val (.int 35)] [])) _
    refine XS.aloadN X0.here hx rfl (hb hby dj27_0) rfl rfl ?_
    refine XS.iloadN X0.here hx rfl (hb hby dj27_1) rfl ?_
    refine XS.iconst X0.here hx rfl (hb hby dj27_2) ?_
    refine st101.trans ?_
    show SP pg ev below (T101.setTop (mkF mi 6 #[.val (.ref x), .val (.int 35)] [(.int (ixG 0 cs))])) _
    exact retI X101 hx Bd.returns (hb hby dj27_6) hr
  · show Q_siy Z x t cs zc fm hE n0 _ T101.heap _
    rw [ek101]
    exact ⟨rfl, N101, rfl⟩
theorem dj5_0 : decode jc5 0 = .ok (.iload_n 1, 1) := by decide +kernel
theorem dj5_1 : decode jc5 1 = .ok (.iload_n 0, 1) := by decide +kernel
theorem dj5_2 : decode jc5 2 = .ok (.if_icmp .ge 35, 3) := by decide +kernel
theorem dj5_37 : decode jc5 37 = .ok (.return_, 1) := by decide +kernel
theorem pn_java_util_Arrays : plainName "java/util/Arrays" = true := by first | (simp [plainName, overriddenIn]; done) | decide +kernel
theorem ef_ckl (mi : MethodId) (p : Int32) (q : Int32) : entryFrame mi #[(.int p), (.int q)] 2 = mkF mi 0 #[.val (.int p), .val (.int q)] [] := rfl
def Q_ckl (Z : State) (p q : Int32) (hE : Heap) (n0 : Nat) (vv : Option Value) (hh : Heap) (LL : List Loc) : Prop := (vv = none) ∧ (Fr n0 LL) ∧ (hh = hE)
theorem rm_ckl (hw : HW a0 Z) (ws : List Cond) (p q : Int32) (hE : Heap) (n0 : Nat) (O : Old Z n0 hE) (hpq : ¬ (q < p)) :
    MF la Z hE mn30 jc5 2 none ws (rr 0 0 0 0) #[(.int p), (.int q)] (Q_ckl Z p q hE n0) := by
  refine MetFree.of_bodySF (plainFor_of_name pn_java_util_Arrays) hisR ?_
  intro pg ev sb mi gs below me cd s₁ Bd hml0 hPt hKt
  obtain ⟨rfl, hZ, hh⟩ := hPt
  have hx := Bd.exec
  have hby := Bd.bytes
  have hml : cd.maxLocals = 2 := hml0
  have hown : sb.vm.findClass c12_ = some mi.cls := findClass_of_methodNamed Bd.named
  have X0 : Stand pg la ev (rr 0 0 0 0) sb mi #[(.int p), (.int q)] below me cd s₁ [] 0 0 := Stand.of_body Bd
  have eE : s₁.heap = hE := by rw [← hh, Bd.state]; rfl
  have N0 := Fr.nil n0
  have pre0 : ∀ tt, SP pg ev below (s₁.setTop (mkF mi 0 #[.val (.int p), .val (.int q)] [])) tt → SP pg ev below (s₁.setTop (entryFrame mi #[(.int p), (.int q)] 2)) tt := fun tt kk => castTop (ef_ckl mi p q) kk
  obtain ⟨fs, hr, hrun, hended, hW, hsame⟩ := X0.leave (v := none) (fun _ => rfl)
  refine ⟨_, _, pre0 _ ?_, hrun, hended, _, _, rfl, ?_, ⟨_, rfl⟩, hW, hsame.mono (by decide) (by decide)⟩
  · show SP pg ev below (s₁.setTop (mkF mi 0 #[.val (.int p), .val (.int q)] [])) _
    refine XS.iloadN X0.here hx rfl (hb hby dj5_0) rfl ?_
    refine XS.iloadN X0.here hx rfl (hb hby dj5_1) rfl ?_
    refine XS.icmpYes X0.here hx rfl (pc0 := 2) (pc' := 37) rfl (hb hby dj5_2) rfl (flt hpq).2.1 (by decide) (by decide) ?_
    show SP pg ev below (s₁.setTop (mkF mi 37 #[.val (.int p), .val (.int q)] [])) _
    exact X0.returnOut hx Bd.returns (hb hby dj5_37) hr
  · show Q_ckl Z p q hE n0 _ s₁.heap _
    rw [eE]
    exact ⟨rfl, N0, rfl⟩
theorem dj6_0 : decode jc6 0 = .ok (.iload_n 1, 1) := by decide +kernel
theorem dj6_1 : decode jc6 1 = .ok (.iload_n 2, 1) := by decide +kernel
theorem dj6_2 : decode jc6 2 = .ok (.invokestatic 343, 3) := by decide +kernel
theorem dj6_5 : decode jc6 5 = .ok (.iload_n 2, 1) := by decide +kernel
theorem dj6_6 : decode jc6 6 = .ok (.iload_n 1, 1) := by decide +kernel
theorem dj6_7 : decode jc6 7 = .ok (.isub, 1) := by decide +kernel
theorem dj6_8 : decode jc6 8 = .ok (.istore_n 3, 1) := by decide +kernel
theorem dj6_9 : decode jc6 9 = .ok (.iload_n 3, 1) := by decide +kernel
theorem dj6_10 : decode jc6 10 = .ok (.newarray .byte, 2) := by decide +kernel
theorem dj6_12 : decode jc6 12 = .ok (.astore 4, 2) := by decide +kernel
theorem dj6_14 : decode jc6 14 = .ok (.aload_n 0, 1) := by decide +kernel
theorem dj6_15 : decode jc6 15 = .ok (.iload_n 1, 1) := by decide +kernel
theorem dj6_16 : decode jc6 16 = .ok (.aload 4, 2) := by decide +kernel
theorem dj6_18 : decode jc6 18 = .ok (.iconst 0, 1) := by decide +kernel
theorem dj6_19 : decode jc6 19 = .ok (.aload_n 0, 1) := by decide +kernel
theorem dj6_20 : decode jc6 20 = .ok (.arraylength, 1) := by decide +kernel
theorem dj6_21 : decode jc6 21 = .ok (.iload_n 1, 1) := by decide +kernel
theorem dj6_22 : decode jc6 22 = .ok (.isub, 1) := by decide +kernel
theorem dj6_23 : decode jc6 23 = .ok (.iload_n 3, 1) := by decide +kernel
theorem dj6_24 : decode jc6 24 = .ok (.invokestatic 304, 3) := by decide +kernel
theorem dj6_27 : decode jc6 27 = .ok (.invokestatic 150, 3) := by decide +kernel
theorem dj6_30 : decode jc6 30 = .ok (.aload 4, 2) := by decide +kernel
theorem dj6_32 : decode jc6 32 = .ok (.areturn, 1) := by decide +kernel
theorem pd_19 : parseMethodDescriptor "(II)V" = some ⟨[.int, .int], none⟩ := by decide +kernel
theorem ef_crb (mi : MethodId) (t : Addr) (N : Nat) (a : Nat) : entryFrame mi #[(.ref t), (.int (Int32.ofNat a)), (.int (Int32.ofNat N))] 5 = mkF mi 0 #[.val (.ref t), .val (.int (Int32.ofNat a)), .val (.int (Int32.ofNat N)), .unset, .unset] [] := rfl
def Q_crb (Z : State) (t : Addr) (kb : ClassId) (N : Nat) (vs : List Value) (a : Nat) (hE : Heap) (n0 : Nat) (vv : Option Value) (hh : Heap) (LL : List Loc) : Prop := ∃ r : Addr, ∃ kr : ClassId, (vv = some (.ref r)) ∧ (Fr n0 LL) ∧ (Keep hE hh []) ∧ (hE.size ≤ r) ∧ (Arv Z hh r kr .byte (Int32.ofNat (N - a)) (vs.drop a) (.int 0))
theorem rm_crb (hw : HW a0 Z) (ws : List Cond) (t : Addr) (kb : ClassId) (N : Nat) (vs : List Value) (a : Nat) (hE : Heap) (n0 : Nat) (O : Old Z n0 hE) (P0_ : Arv Z hE t kb .byte (Int32.ofNat N) vs (.int 0)) (ha : 0 < a) (haN : a ≤ N) (hN : N ≤ 8000) (hv : vs.length = N) (hm8 : N - a ≤ 8) :
    MF la Z hE mn31 jc6 5 (some (.array .byte)) ws (rr 1 1 8 18) #[(.ref t), (.int (Int32.ofNat a)), (.int (Int32.ofNat N))] (Q_crb Z t kb N vs a hE n0) := by
  refine MetFree.of_bodySF (plainFor_of_name pn_java_util_Arrays) hisR ?_
  intro pg ev sb mi gs below me cd s₁ Bd hml0 hPt hKt
  obtain ⟨rfl, hZ, hh⟩ := hPt
  have hx := Bd.exec
  have hby := Bd.bytes
  have hml : cd.maxLocals = 5 := hml0
  have hown : sb.vm.findClass c12_ = some mi.cls := findClass_of_methodNamed Bd.named
  have X0 : Stand pg la ev (rr 1 1 8 18) sb mi #[(.ref t), (.int (Int32.ofNat a)), (.int (Int32.ofNat N))] below me cd s₁ [] 0 0 := Stand.of_body Bd
  have eE : s₁.heap = hE := by rw [← hh, Bd.state]; rfl
  have N0 := Fr.nil n0
  have pre0 : ∀ tt, SP pg ev below (s₁.setTop (mkF mi 0 #[.val (.ref t), .val (.int (Int32.ofNat a)), .val (.int (Int32.ofNat N)), .unset, .unset] [])) tt → SP pg ev below (s₁.setTop (entryFrame mi #[(.ref t), (.int (Int32.ofNat a)), (.int (Int32.ofNat N))] 5)) tt := fun tt kk => castTop (ef_crb mi t N a) kk
  obtain ⟨v101, _, ⟨T101, L101, k101, n101⟩, -, X101, ⟨Lc101, hQ101, l101, y101, z101⟩, st101⟩ := Jvm.LawKit.callS X0 hx (y := mn30) hown (mvT hZ (wd123 hw)) (mvT hZ (wd124 hw)) (mvT hZ (wd118 hw)) (mvT hZ (wd125 hw)) (by decide) (backOf (W := 0) (rm_ckl la Z a0 hw [] (Int32.ofNat a) (Int32.ofNat N) hE n0 O (fun q => absurd ((own_lt8 (by omega) (by omega)).mp q) (by omega) : ¬ ((Int32.ofNat N) < (Int32.ofNat a)))) hZ (wd125 hw) (wd118 hw) (by decide) (by decide)) (g := (mkF mi 2 #[.val (.ref t), .val (.int (Int32.ofNat a)), .val (.int (Int32.ofNat N)), .unset, .unset] [(.int (Int32.ofNat N)), (.int (Int32.ofNat a))])) rfl (by rw [hml]; rfl) (argsL := [(.int (Int32.ofNat a)), (.int (Int32.ofNat N))]) (rest := []) (lenOf pd_19 rfl) rfl (Nat.le_of_ble_eq_true rfl) (hb hby dj6_2) (fun _ _ => ⟨rfl, eE, (by decide : 0 + 0 ≤ _), (by decide : 0 + 0 ≤ _)⟩)
  dsimp only [Pt.U, Pt.locs, Pt.cells, Pt.slots] at X101 l101 y101 z101 st101 hQ101
  subst l101 y101 z101
  obtain ⟨rfl, Nq101, ek101⟩ := hQ101
  have N101 := Fr.app N0 Nq101
  have pre102 : ∀ tt, SP pg ev below (T101.setTop (mkF mi 8 #[.val (.ref t), .val (.int (Int32.ofNat a)), .val (.int (Int32.ofNat N)), .unset, .unset] [(.int ((Int32.ofNat N) - (Int32.ofNat a)))])) tt → SP pg ev below (s₁.setTop (entryFrame mi #[(.ref t), (.int (Int32.ofNat a)), (.int (Int32.ofNat N))] 5)) tt := fun tt kk => pre0 _ (by
    show SP pg ev below (s₁.setTop (mkF mi 0 #[.val (.ref t), .val (.int (Int32.ofNat a)), .val (.int (Int32.ofNat N)), .unset, .unset] [])) _
    refine XS.iloadN X0.here hx rfl (hb hby dj6_0) rfl ?_
    refine XS.iloadN X0.here hx rfl (hb hby dj6_1) rfl ?_
    refine st101 _ ?_
    refine XS.iloadN X101.here hx rfl (hb hby dj6_5) rfl ?_
    refine XS.iloadN X101.here hx rfl (hb hby dj6_6) rfl ?_
    refine XS.isub X101.here hx rfl (hb hby dj6_7) rfl ?_
    exact kk)
  have pre103 : ∀ tt, SP pg ev below (T101.setTop (mkF mi 8 #[.val (.ref t), .val (.int (Int32.ofNat a)), .val (.int (Int32.ofNat N)), .unset, .unset] [(.int (Int32.ofNat (N - a)))])) tt → SP pg ev below (s₁.setTop (entryFrame mi #[(.ref t), (.int (Int32.ofNat a)), (.int (Int32.ofNat N))] 5)) tt := fun tt kk => pre102 tt (by rw [show ((Int32.ofNat N) - (Int32.ofNat a)) = (Int32.ofNat (N - a)) from own_sub32 haN]; exact kk)
  obtain ⟨T104, h104, k104, X104, e104, E104, A104, st104⟩ := newP (aty := .byte) X101 hx hZ (wd23 hw) ek101 (g := (mkF mi 10 #[.val (.ref t), .val (.int (Int32.ofNat a)), .val (.int (Int32.ofNat N)), .val (.int (Int32.ofNat (N - a))), .unset] [(.int (Int32.ofNat (N - a)))])) rfl (hb hby dj6_10) rfl (own_nn8 (by omega)) (cap := 8) (by rw [own_wn (by omega)]; omega) (by decide) (by decide) (by decide)
  obtain ⟨b104, q104⟩ : ∃ z, z = hE.size := ⟨_, rfl⟩
  rw [← q104] at A104 st104
  have f105 : Arv Z h104 b104 k104 .byte (Int32.ofNat (N - a)) ([] ++ List.replicate (N - a) (Value.int 0)) (.int 0) := (Arv.new A104 (own_nn8 (by omega))).pad (pad_rep [] (.int 0) (N - a))
  have f106 : Arv Z h104 t kb .byte (Int32.ofNat N) vs (.int 0) := (P0_.ext E104)
  obtain ⟨cl107, Ar107, -, Sz107, Nn107, -, -⟩ := id f106
  have pre108 : ∀ tt, SP pg ev below (T104.setTop (mkF mi 23 #[.val (.ref t), .val (.int (Int32.ofNat a)), .val (.int (Int32.ofNat N)), .val (.int (Int32.ofNat (N - a))), .val (.ref b104)] [(.int ((Int32.ofNat N) - (Int32.ofNat a))), (.int 0), (.ref b104), (.int (Int32.ofNat a)), (.ref t)])) tt → SP pg ev below (s₁.setTop (entryFrame mi #[(.ref t), (.int (Int32.ofNat a)), (.int (Int32.ofNat N))] 5)) tt := fun tt kk => pre103 _ (by
    show SP pg ev below (T101.setTop (mkF mi 8 #[.val (.ref t), .val (.int (Int32.ofNat a)), .val (.int (Int32.ofNat N)), .unset, .unset] [(.int (Int32.ofNat (N - a)))])) _
    refine XS.istoreN X101.here hx rfl (hb hby dj6_8) rfl (l' := #[.val (.ref t), .val (.int (Int32.ofNat a)), .val (.int (Int32.ofNat N)), .val (.int (Int32.ofNat (N - a))), .unset]) rfl ?_
    refine XS.iloadN X101.here hx rfl (hb hby dj6_9) rfl ?_
    refine st104 _ ?_
    refine XS.astore X104.here hx rfl (hb hby dj6_12) rfl rfl (l' := #[.val (.ref t), .val (.int (Int32.ofNat a)), .val (.int (Int32.ofNat N)), .val (.int (Int32.ofNat (N - a))), .val (.ref b104)]) rfl ?_
    refine XS.aloadN X104.here hx rfl (hb hby dj6_14) rfl rfl ?_
    refine XS.iloadN X104.here hx rfl (hb hby dj6_15) rfl ?_
    refine XS.aload X104.here hx rfl (hb hby dj6_16) rfl rfl ?_
    refine XS.iconst X104.here hx rfl (hb hby dj6_18) ?_
    refine XS.aloadN X104.here hx rfl (hb hby dj6_19) rfl rfl ?_
    refine X104.arraylength hx (cell := cl107) (by rw [e104]; exact Ar107.1) (State.isArrayOf_alike hZ.alike Ar107.2.1) (g := (mkF mi 20 #[.val (.ref t), .val (.int (Int32.ofNat a)), .val (.int (Int32.ofNat N)), .val (.int (Int32.ofNat (N - a))), .val (.ref b104)] [(.ref t), (.int 0), (.ref b104), (.int (Int32.ofNat a)), (.ref t)])) rfl (rest := [(.int 0), (.ref b104), (.int (Int32.ofNat a)), (.ref t)]) rfl (hb hby dj6_20) _ ?_
    rw [len_of Sz107 Nn107]
    refine XS.iloadN X104.here hx rfl (hb hby dj6_21) rfl ?_
    refine XS.isub X104.here hx rfl (hb hby dj6_22) rfl ?_
    exact kk)
  have pre109 : ∀ tt, SP pg ev below (T104.setTop (mkF mi 23 #[.val (.ref t), .val (.int (Int32.ofNat a)), .val (.int (Int32.ofNat N)), .val (.int (Int32.ofNat (N - a))), .val (.ref b104)] [(.int (Int32.ofNat (N - a))), (.int 0), (.ref b104), (.int (Int32.ofNat a)), (.ref t)])) tt → SP pg ev below (s₁.setTop (entryFrame mi #[(.ref t), (.int (Int32.ofNat a)), (.int (Int32.ofNat N))] 5)) tt := fun tt kk => pre108 tt (by rw [show ((Int32.ofNat N) - (Int32.ofNat a)) = (Int32.ofNat (N - a)) from own_sub32 haN]; exact kk)
  have O110 : Old Z n0 h104 := (O.ext E104)
  obtain ⟨v111, _, ⟨T111, L111, k111, n111⟩, -, X111, ⟨Lc111, hQ111, l111, y111, z111⟩, st111⟩ := Jvm.LawKit.callS X104 hx (y := mn6) hown (mvT hZ (wd126 hw)) (mvT hZ (wd72 hw)) (mvT hZ (wd69 hw)) (mvT hZ (wd73 hw)) (by decide) (backOf (W := 4) (rm_mmin la Z a0 hw [] (Int32.ofNat (N - a)) (Int32.ofNat (N - a)) h104 n0 O110) hZ (wd73 hw) (wd69 hw) (by decide) (by decide)) (g := (mkF mi 24 #[.val (.ref t), .val (.int (Int32.ofNat a)), .val (.int (Int32.ofNat N)), .val (.int (Int32.ofNat (N - a))), .val (.ref b104)] [(.int (Int32.ofNat (N - a))), (.int (Int32.ofNat (N - a))), (.int 0), (.ref b104), (.int (Int32.ofNat a)), (.ref t)])) rfl (by rw [hml]; rfl) (argsL := [(.int (Int32.ofNat (N - a))), (.int (Int32.ofNat (N - a)))]) (rest := [(.int 0), (.ref b104), (.int (Int32.ofNat a)), (.ref t)]) (lenOf pd_14 rfl) rfl (Nat.le_of_ble_eq_true rfl) (hb hby dj6_24) (fun _ _ => ⟨rfl, e104, (by decide : 1 + 0 ≤ _), (by decide : 8 + 0 ≤ _)⟩)
  dsimp only [Pt.U, Pt.locs, Pt.cells, Pt.slots] at X111 l111 y111 z111 st111 hQ111
  subst l111 y111 z111
  obtain ⟨rfl, Nq111, ek111⟩ := hQ111
  have N111 := Fr.app N101 Nq111
  have pre112 : ∀ tt, SP pg ev below (T111.setTop (mkF mi 27 #[.val (.ref t), .val (.int (Int32.ofNat a)), .val (.int (Int32.ofNat N)), .val (.int (Int32.ofNat (N - a))), .val (.ref b104)] [(.int (if (Int32.ofNat (N - a)) < (Int32.ofNat (N - a)) then (Int32.ofNat (N - a)) else (Int32.ofNat (N - a)))), (.int 0), (.ref b104), (.int (Int32.ofNat a)), (.ref t)])) tt → SP pg ev below (s₁.setTop (entryFrame mi #[(.ref t), (.int (Int32.ofNat a)), (.int (Int32.ofNat N))] 5)) tt := fun tt kk => pre109 _ (by
    show SP pg ev below (T104.setTop (mkF mi 23 #[.val (.ref t), .val (.int (Int32.ofNat a)), .val (.int (Int32.ofNat N)), .val (.int (Int32.ofNat (N - a))), .val (.ref b104)] [(.int (Int32.ofNat (N - a))), (.int 0), (.ref b104), (.int (Int32.ofNat a)), (.ref t)])) _
    refine XS.iloadN X104.here hx rfl (hb hby dj6_23) rfl ?_
    refine st111 _ ?_
    exact kk)
  have pre113 : ∀ tt, SP pg ev below (T111.setTop (mkF mi 27 #[.val (.ref t), .val (.int (Int32.ofNat a)), .val (.int (Int32.ofNat N)), .val (.int (Int32.ofNat (N - a))), .val (.ref b104)] [(.int (Int32.ofNat (N - a))), (.int 0), (.ref b104), (.int (Int32.ofNat a)), (.ref t)])) tt → SP pg ev below (s₁.setTop (entryFrame mi #[(.ref t), (.int (Int32.ofNat a)), (.int (Int32.ofNat N))] 5)) tt := fun tt kk => pre112 tt (by rw [show (if (Int32.ofNat (N - a)) < (Int32.ofNat (N - a)) then (Int32.ofNat (N - a)) else (Int32.ofNat (N - a))) = (Int32.ofNat (N - a)) from by split <;> rfl]; exact kk)
  have g_b104 : n0 ≤ b104 := Nat.le_trans (Nat.le_trans (Nat.le_of_eq O.1.symm) O.2.1) (Nat.le_of_eq q104.symm)
  obtain ⟨T114, h114, L114, X114, e114, N114, Kq114, V114, st114⟩ := cpA X111 hx hZ hown (wd127 hw) (wd130 hw) (wd128 hw) (wd129 hw) ek111 (us := (vs.drop a)) f106 f105 (Or.inl ⟨rfl, rfl⟩) (own_nn8 (by omega)) (by decide) (own_nn8 (by omega)) (by rw [own_wn (n := a) (by omega), own_wn (n := N - a) (by omega), own_wn (n := N) (by omega)]; omega) (by rw [own_wn (n := N - a) (by omega)]; exact Nat.le_of_eq (Nat.zero_add _)) (by rw [own_wn (n := a) (by omega), own_wn (n := N - a) (by omega)]; exact own_us_drop (by omega)) (by rw [own_wn (n := N - a) (by omega)]; simp) N111 g_b104 (g := (mkF mi 27 #[.val (.ref t), .val (.int (Int32.ofNat a)), .val (.int (Int32.ofNat N)), .val (.int (Int32.ofNat (N - a))), .val (.ref b104)] [(.int (Int32.ofNat (N - a))), (.int 0), (.ref b104), (.int (Int32.ofNat a)), (.ref t)])) rfl (by rw [hml]; rfl) (rest := []) rfl (hb hby dj6_27) (by decide) (W := 0) (Nat.le_of_ble_eq_true rfl) (by decide)
  have f115 : Arv Z h114 b104 k104 .byte (Int32.ofNat (N - a)) (vs.drop a) (.int 0) := by have hq := V114; rw [own_wn (n := N - a) (by omega), show (0 : Int32).toNatClampNeg = 0 from rfl, own_cut1] at hq; exact hq
  obtain ⟨fs, hr, hrun, hended, hW, hsame⟩ := X114.leave (v := some (.ref b104)) (fun hq => by rw [Bd.returns] at hq; cases hq)
  refine ⟨_, _, pre113 _ ?_, hrun, hended, _, _, rfl, ?_, ⟨_, rfl⟩, hW, hsame.mono (by decide) (by decide)⟩
  · show SP pg ev below (T111.setTop (mkF mi 27 #[.val (.ref t), .val (.int (Int32.ofNat a)), .val (.int (Int32.ofNat N)), .val (.int (Int32.ofNat (N - a))), .val (.ref b104)] [(.int (Int32.ofNat (N - a))), (.int 0), (.ref b104), (.int (Int32.ofNat a)), (.ref t)])) _
    refine st114 _ ?_
    refine XS.aload X114.here hx rfl (hb hby dj6_30) rfl rfl ?_
    show SP pg ev below (T114.setTop (mkF mi 32 #[.val (.ref t), .val (.int (Int32.ofNat a)), .val (.int (Int32.ofNat N)), .val (.int (Int32.ofNat (N - a))), .val (.ref b104)] [(.ref b104)])) _
    jvm_step X114.here [X114.here.top, hx, (hb hby dj6_32), X114.method', Bd.returns, Value.isRef, FieldType.isReference]
    first | (intro acts; rw [hr _ acts rfl rfl rfl]) | rw [hr _ _ rfl rfl rfl]
    exact Steps.refl _
  · show Q_crb Z t kb N vs a hE n0 _ T114.heap _
    rw [e114]
    exact ⟨b104, k104, rfl, N114, (((Keep.refl hE []).ext E104).trans Kq114 (allS (Or.inr (Nat.le_of_eq q104.symm)) all0)), (Nat.le_of_eq q104.symm), f115⟩
theorem dj7_0 : decode jc7 0 = .ok (.iload_n 1, 1) := by decide +kernel
theorem dj7_1 : decode jc7 1 = .ok (.ifCond .ne 9, 3) := by decide +kernel
theorem dj7_10 : decode jc7 10 = .ok (.aload_n 0, 1) := by decide +kernel
theorem dj7_11 : decode jc7 11 = .ok (.iload_n 1, 1) := by decide +kernel
theorem dj7_12 : decode jc7 12 = .ok (.iload_n 2, 1) := by decide +kernel
theorem dj7_13 : decode jc7 13 = .ok (.invokestatic 339, 3) := by decide +kernel
theorem dj7_16 : decode jc7 16 = .ok (.areturn, 1) := by decide +kernel
theorem pd_20 : parseMethodDescriptor "([BII)[B" = some ⟨[(.array .byte), .int, .int], some (.array .byte)⟩ := by decide +kernel
theorem ef_crc (mi : MethodId) (t : Addr) (N : Nat) (a : Nat) : entryFrame mi #[(.ref t), (.int (Int32.ofNat a)), (.int (Int32.ofNat N))] 3 = mkF mi 0 #[.val (.ref t), .val (.int (Int32.ofNat a)), .val (.int (Int32.ofNat N))] [] := rfl
def Q_crc (Z : State) (t : Addr) (kb : ClassId) (N : Nat) (vs : List Value) (a : Nat) (hE : Heap) (n0 : Nat) (vv : Option Value) (hh : Heap) (LL : List Loc) : Prop := ∃ r : Addr, ∃ kr : ClassId, (vv = some (.ref r)) ∧ (Fr n0 LL) ∧ (Keep hE hh []) ∧ (hE.size ≤ r) ∧ (Arv Z hh r kr .byte (Int32.ofNat (N - a)) (vs.drop a) (.int 0))
theorem rm_crc (hw : HW a0 Z) (ws : List Cond) (t : Addr) (kb : ClassId) (N : Nat) (vs : List Value) (a : Nat) (hE : Heap) (n0 : Nat) (O : Old Z n0 hE) (P0_ : Arv Z hE t kb .byte (Int32.ofNat N) vs (.int 0)) (ha : 0 < a) (haN : a ≤ N) (hN : N ≤ 8000) (hv : vs.length = N) (hm8 : N - a ≤ 8) :
    MF la Z hE mn32 jc7 3 (some (.array .byte)) ws (rr 2 1 8 34) #[(.ref t), (.int (Int32.ofNat a)), (.int (Int32.ofNat N))] (Q_crc Z t kb N vs a hE n0) := by
  refine MetFree.of_bodySF (plainFor_of_name pn_java_util_Arrays) hisR ?_
  intro pg ev sb mi gs below me cd s₁ Bd hml0 hPt hKt
  obtain ⟨rfl, hZ, hh⟩ := hPt
  have hx := Bd.exec
  have hby := Bd.bytes
  have hml : cd.maxLocals = 3 := hml0
  have hown : sb.vm.findClass c12_ = some mi.cls := findClass_of_methodNamed Bd.named
  have X0 : Stand pg la ev (rr 2 1 8 34) sb mi #[(.ref t), (.int (Int32.ofNat a)), (.int (Int32.ofNat N))] below me cd s₁ [] 0 0 := Stand.of_body Bd
  have eE : s₁.heap = hE := by rw [← hh, Bd.state]; rfl
  have N0 := Fr.nil n0
  have pre0 : ∀ tt, SP pg ev below (s₁.setTop (mkF mi 0 #[.val (.ref t), .val (.int (Int32.ofNat a)), .val (.int (Int32.ofNat N))] [])) tt → SP pg ev below (s₁.setTop (entryFrame mi #[(.ref t), (.int (Int32.ofNat a)), (.int (Int32.ofNat N))] 3)) tt := fun tt kk => castTop (ef_crc mi t N a) kk
  obtain ⟨v101, _, ⟨T101, L101, k101, n101⟩, -, X101, ⟨Lc101, hQ101, l101, y101, z101⟩, st101⟩ := Jvm.LawKit.callS X0 hx (y := mn31) hown (mvT hZ (wd120 hw)) (mvT hZ (wd121 hw)) (mvT hZ (wd118 hw)) (mvT hZ (wd122 hw)) (by decide) (backOf (W := 0) (rm_crb la Z a0 hw [] t kb N vs a hE n0 O P0_ (ha : 0 < a) (haN : a ≤ N) (hN : N ≤ 8000) (hv : vs.length = N) (hm8 : N - a ≤ 8)) hZ (wd122 hw) (wd118 hw) (by decide) (by decide)) (g := (mkF mi 13 #[.val (.ref t), .val (.int (Int32.ofNat a)), .val (.int (Int32.ofNat N))] [(.int (Int32.ofNat N)), (.int (Int32.ofNat a)), (.ref t)])) rfl (by rw [hml]; rfl) (argsL := [(.ref t), (.int (Int32.ofNat a)), (.int (Int32.ofNat N))]) (rest := []) (lenOf pd_20 rfl) rfl (Nat.le_of_ble_eq_true rfl) (hb hby dj7_13) (fun _ _ => ⟨rfl, eE, (by decide : 0 + 1 ≤ _), (by decide : 0 + 8 ≤ _)⟩)
  dsimp only [Pt.U, Pt.locs, Pt.cells, Pt.slots] at X101 l101 y101 z101 st101 hQ101
  subst l101 y101 z101
  obtain ⟨r_101, kr_101, rfl, Nq101, Kq101, fr_r_101, r101_0⟩ := hQ101
  have N101 := Fr.app N0 Nq101
  obtain ⟨fs, hr, hrun, hended, hW, hsame⟩ := X101.leave (v := some (.ref r_101)) (fun hq => by rw [Bd.returns] at hq; cases hq)
  refine ⟨_, _, pre0 _ ?_, hrun, hended, _, _, rfl, ?_, ⟨_, rfl⟩, hW, hsame.mono (by decide) (by decide)⟩
  · show SP pg ev below (s₁.setTop (mkF mi 0 #[.val (.ref t), .val (.int (Int32.ofNat a)), .val (.int (Int32.ofNat N))] [])) _
    refine XS.iloadN X0.here hx rfl (hb hby dj7_0) rfl ?_
    refine XS.ifYes X0.here hx rfl (pc0 := 1) (pc' := 10) rfl (hb hby dj7_1) rfl ((if0 _ _).trans (feq (fun q => absurd ((own_eq8 (a := a) (b := 0) (by omega) (by omega)).mp q) (by omega))).2) (by decide) (by decide) ?_
    refine XS.aloadN X0.here hx rfl (hb hby dj7_10) rfl rfl ?_
    refine XS.iloadN X0.here hx rfl (hb hby dj7_11) rfl ?_
    refine XS.iloadN X0.here hx rfl (hb hby dj7_12) rfl ?_
    refine st101 _ ?_
    show SP pg ev below (T101.setTop (mkF mi 16 #[.val (.ref t), .val (.int (Int32.ofNat a)), .val (.int (Int32.ofNat N))] [(.ref r_101)])) _
    jvm_step X101.here [X101.here.top, hx, (hb hby dj7_16), X101.method', Bd.returns, Value.isRef, FieldType.isReference]
    first | (intro acts; rw [hr _ acts rfl rfl rfl]) | rw [hr _ _ rfl rfl rfl]
    exact Steps.refl _
  · show Q_crc Z t kb N vs a hE n0 _ T101.heap _
    exact ⟨r_101, kr_101, rfl, N101, ((Keep.refl hE []).trans Kq101 all0), fr_r_101, r101_0⟩
theorem dj8_0 : decode jc8 0 = .ok (.aload_n 0, 1) := by decide +kernel
theorem dj8_1 : decode jc8 1 = .ok (.invokespecial 1, 3) := by decide +kernel
theorem dj8_4 : decode jc8 4 = .ok (.aload_n 0, 1) := by decide +kernel
theorem dj8_5 : decode jc8 5 = .ok (.aload_n 1, 1) := by decide +kernel
theorem dj8_6 : decode jc8 6 = .ok (.putfield 9, 3) := by decide +kernel
theorem dj8_9 : decode jc8 9 = .ok (.aload_n 0, 1) := by decide +kernel
theorem dj8_10 : decode jc8 10 = .ok (.iload_n 2, 1) := by decide +kernel
theorem dj8_11 : decode jc8 11 = .ok (.putfield 15, 3) := by decide +kernel
theorem dj8_14 : decode jc8 14 = .ok (.return_, 1) := by decide +kernel
theorem ef_sbw (mi : MethodId) (a : Addr) (t : Addr) (ck : Int32) : entryFrame mi #[(.ref a), (.ref t), (.int ck)] 3 = mkF mi 0 #[.val (.ref a), .val (.ref t), .val (.int ck)] [] := rfl
def Q_sbw (Z : State) (a t : Addr) (ck : Int32) (hE : Heap) (n0 : Nat) (vv : Option Value) (hh : Heap) (LL : List Loc) : Prop := (vv = none) ∧ (Fr n0 LL) ∧ (Keep hE hh [a]) ∧ (Exa Z hh a c0_) ∧ (Fld Z hh a c0_ "value" "[B" (.ref t)) ∧ (Fld Z hh a c0_ "coder" "B" (.int ck))
theorem rm_sbw (hw : HW a0 Z) (ws : List Cond) (a t : Addr) (ck : Int32) (hE : Heap) (n0 : Nat) (O : Old Z n0 hE) (P0_ : Exa Z hE a c0_) (P1_ : Fld Z hE a c0_ "value" "[B" .null) (P2_ : Fld Z hE a c0_ "coder" "B" (.int 0)) (g_a : n0 ≤ a) (hcd : ck.toInt8.toInt32 = ck) :
    MF la Z hE mn33 jc8 3 none ws (rr 1 0 0 12) #[(.ref a), (.ref t), (.int ck)] (Q_sbw Z a t ck hE n0) := by
  refine MetFree.of_bodySF (plainFor_of_name pn_java_lang_String) hisR ?_
  intro pg ev sb mi gs below me cd s₁ Bd hml0 hPt hKt
  obtain ⟨rfl, hZ, hh⟩ := hPt
  have hx := Bd.exec
  have hby := Bd.bytes
  have hml : cd.maxLocals = 3 := hml0
  have hown : sb.vm.findClass c0_ = some mi.cls := findClass_of_methodNamed Bd.named
  have hnm := (name_of_methodNamed Bd.named Bd.method).1
  have X0 : Stand pg la ev (rr 1 0 0 12) sb mi #[(.ref a), (.ref t), (.int ck)] below me cd s₁ [] 0 0 := Stand.of_body Bd
  have eE : s₁.heap = hE := by rw [← hh, Bd.state]; rfl
  have N0 := Fr.nil n0
  have pre0 : ∀ tt, SP pg ev below (s₁.setTop (mkF mi 0 #[.val (.ref a), .val (.ref t), .val (.int ck)] [])) tt → SP pg ev below (s₁.setTop (entryFrame mi #[(.ref a), (.ref t), (.int ck)] 3)) tt := fun tt kk => castTop (ef_sbw mi a t ck) kk
  obtain ⟨T101, X101, e101, st101⟩ := initO X0 hx hZ hown (wd19 hw) (wd20 hw) (wd21 hw) eE (g := (mkF mi 1 #[.val (.ref a), .val (.ref t), .val (.int ck)] [(.ref a)])) rfl (by rw [hml]; rfl) rfl (hb hby dj8_1) (by decide) (W := 0) (Nat.le_of_ble_eq_true rfl) (by decide)
  obtain ⟨T102, h102, X102, e102, W102, st102⟩ := putF X101 hx hZ hown (host := "") (Or.inl (wd28 hw)) Via.refl e101 P1_ P0_ (Or.inr ⟨(wd24 hw), rfl, hnm⟩) (wd10 hw) (ty := (.array .byte)) (by decide) rfl rfl (g := (mkF mi 6 #[.val (.ref a), .val (.ref t), .val (.int ck)] [(.ref t), (.ref a)])) rfl rfl (hb hby dj8_6)
  have N102 := Fr.snoc X102 N0 g_a
  have f103 : Fld Z h102 a c0_ "value" "[B" (.ref t) := P1_.same W102
  have f104 : Exa Z h102 a c0_ := (P0_.keep (Keep.of_wr W102))
  have f105 : Fld Z h102 a c0_ "coder" "B" (.int 0) := (P2_.other W102 (Or.inr (slot_ne (Or.inr (wd25 hw)) (Or.inr (wd24 hw)) (by decide) (t := .byte) (t' := (.array .byte)) (by decide) (by decide))))
  obtain ⟨T106, h106, X106, e106, W106, st106⟩ := putFN X102 hx hZ hown (wd29 hw) Via.refl e102 f105 f104 (Or.inr ⟨(wd25 hw), rfl, hnm⟩) (wd10 hw) (ty := .byte) (v' := (.int ck.toInt8.toInt32)) (by decide) rfl (fits_nar_byte _) (g := (mkF mi 11 #[.val (.ref a), .val (.ref t), .val (.int ck)] [(.int ck), (.ref a)])) rfl rfl (hb hby dj8_11)
  have N106 := Fr.snoc X106 N102 g_a
  have f107 : Fld Z h106 a c0_ "coder" "B" (.int ck.toInt8.toInt32) := f105.same W106
  have f108 : Fld Z h106 a c0_ "coder" "B" (.int ck) := by have q := f107; rw [hcd] at q; exact q
  have f109 : Exa Z h106 a c0_ := (f104.keep (Keep.of_wr W106))
  have f110 : Fld Z h106 a c0_ "value" "[B" (.ref t) := (f103.other W106 (Or.inr (slot_ne (Or.inr (wd24 hw)) (Or.inr (wd25 hw)) (by decide) (t := (.array .byte)) (t' := .byte) (by decide) (by decide))))
  obtain ⟨fs, hr, hrun, hended, hW, hsame⟩ := X106.leave (v := none) (fun _ => rfl)
  refine ⟨_, _, pre0 _ ?_, hrun, hended, _, _, rfl, ?_, ⟨_, rfl⟩, hW, hsame.mono (by decide) (by decide)⟩
  · show SP pg ev below (s₁.setTop (mkF mi 0 #[.val (.ref a), .val (.ref t), .val (.int ck)] [])) _
    refine XS.aloadN X0.here hx rfl (hb hby dj8_0) rfl rfl ?_
    refine st101 _ ?_
    refine XS.aloadN X101.here hx rfl (hb hby dj8_4) rfl rfl ?_
    refine XS.aloadN X101.here hx rfl (hb hby dj8_5) rfl rfl ?_
    refine st102 _ ?_
    refine XS.aloadN X102.here hx rfl (hb hby dj8_9) rfl rfl ?_
    refine XS.iloadN X102.here hx rfl (hb hby dj8_10) rfl ?_
    refine st106 _ ?_
    show SP pg ev below (T106.setTop (mkF mi 14 #[.val (.ref a), .val (.ref t), .val (.int ck)] [])) _
    exact X106.returnOut hx Bd.returns (hb hby dj8_14) hr
  · show Q_sbw Z a t ck hE n0 _ T106.heap _
    rw [e106]
    exact ⟨rfl, N106, (((Keep.refl hE [a]).trans (Keep.of_wr W102) (allS (Or.inl (List.mem_of_getElem? (i := 0) rfl)) all0)).trans (Keep.of_wr W106) (allS (Or.inl (List.mem_of_getElem? (i := 0) rfl)) all0)), f109, f110, f108⟩
theorem dj28_0 : decode jc28 0 = .ok (.iload_n 2, 1) := by decide +kernel
theorem dj28_1 : decode jc28 1 = .ok (.ifCond .ne 6, 3) := by decide +kernel
theorem dj28_7 : decode jc28 7 = .ok (.new 1, 3) := by decide +kernel
theorem dj28_10 : decode jc28 10 = .ok (.dup, 1) := by decide +kernel
theorem dj28_11 : decode jc28 11 = .ok (.aload_n 0, 1) := by decide +kernel
theorem dj28_12 : decode jc28 12 = .ok (.iload_n 1, 1) := by decide +kernel
theorem dj28_13 : decode jc28 13 = .ok (.iload_n 1, 1) := by decide +kernel
theorem dj28_14 : decode jc28 14 = .ok (.iload_n 2, 1) := by decide +kernel
theorem dj28_15 : decode jc28 15 = .ok (.iadd, 1) := by decide +kernel
theorem dj28_16 : decode jc28 16 = .ok (.invokestatic 232, 3) := by decide +kernel
theorem dj28_19 : decode jc28 19 = .ok (.iconst 0, 1) := by decide +kernel
theorem dj28_20 : decode jc28 20 = .ok (.invokespecial 112, 3) := by decide +kernel
theorem dj28_23 : decode jc28 23 = .ok (.areturn, 1) := by decide +kernel
theorem pd_21 : parseMethodDescriptor "([BB)V" = some ⟨[(.array .byte), .byte], none⟩ := by decide +kernel
theorem ef_lns (mi : MethodId) (t : Addr) (off : Nat) (m : Nat) : entryFrame mi #[(.ref t), (.int (Int32.ofNat off)), (.int (Int32.ofNat m))] 3 = mkF mi 0 #[.val (.ref t), .val (.int (Int32.ofNat off)), .val (.int (Int32.ofNat m))] [] := rfl
def Q_lns (Z : State) (t : Addr) (kb : ClassId) (cs : List Int32) (off m : Nat) (hE : Heap) (n0 : Nat) (vv : Option Value) (hh : Heap) (LL : List Loc) : Prop := ∃ y : Addr, ∃ u : Addr, (vv = some (.ref y)) ∧ (Fr n0 LL) ∧ (Keep hE hh []) ∧ (hE.size ≤ y) ∧ (hE.size ≤ u) ∧ (WStr Z hh y u (cs.drop off))
theorem rm_lns (hw : HW a0 Z) (ws : List Cond) (t : Addr) (kb : ClassId) (cs : List Int32) (off m : Nat) (hE : Heap) (n0 : Nat) (O : Old Z n0 hE) (P0_ : Arv Z hE t kb .byte (Int32.ofNat cs.length) (cs.map fun c => Value.int (StrChars.lo8 c)) (.int 0)) (ho : 0 < off) (hm0 : 0 < m) (he : off + m = cs.length) (h4 : cs.length ≤ 4) (hbl : ∀ c ∈ cs, ¬ (255 : Int32) < c) (hbd : ∀ c ∈ cs, ¬ c < 0 ∧ ¬ (65535 : Int32) < c) :
    MF la Z hE mn34 jc28 3 (some (.object c0_)) ws (rr 3 2 12 50) #[(.ref t), (.int (Int32.ofNat off)), (.int (Int32.ofNat m))] (Q_lns Z t kb cs off m hE n0) := by
  refine MetFree.of_bodySF (plainFor_of_name pn_java_lang_StringLatin1) hisR ?_
  intro pg ev sb mi gs below me cd s₁ Bd hml0 hPt hKt
  obtain ⟨rfl, hZ, hh⟩ := hPt
  have hx := Bd.exec
  have hby := Bd.bytes
  have hml : cd.maxLocals = 3 := hml0
  have hown : sb.vm.findClass c5_ = some mi.cls := findClass_of_methodNamed Bd.named
  have X0 : Stand pg la ev (rr 3 2 12 50) sb mi #[(.ref t), (.int (Int32.ofNat off)), (.int (Int32.ofNat m))] below me cd s₁ [] 0 0 := Stand.of_body Bd
  have eE : s₁.heap = hE := by rw [← hh, Bd.state]; rfl
  have N0 := Fr.nil n0
  have pre0 : ∀ tt, SP pg ev below (s₁.setTop (mkF mi 0 #[.val (.ref t), .val (.int (Int32.ofNat off)), .val (.int (Int32.ofNat m))] [])) tt → SP pg ev below (s₁.setTop (entryFrame mi #[(.ref t), (.int (Int32.ofNat off)), (.int (Int32.ofNat m))] 3)) tt := fun tt kk => castTop (ef_lns mi t off m) kk
  obtain ⟨T101, h101, X101, e101, E101, A101, D101, -, st101⟩ := newO X0 hx hZ hown (wd115 hw) (wd10 hw) (wd11 hw) eE (g := (mkF mi 7 #[.val (.ref t), .val (.int (Int32.ofNat off)), .val (.int (Int32.ofNat m))] [])) rfl (hb hby dj28_7) (by decide) (by decide)
  obtain ⟨b101, q101⟩ : ∃ z, z = hE.size := ⟨_, rfl⟩
  rw [← q101] at A101 D101 st101
  have f102 : Fld Z h101 b101 c0_ "value" "[B" .null := D101 (Or.inr (wd24 hw)) (ty := (.array .byte)) (by decide)
  have f103 : Fld Z h101 b101 c0_ "coder" "B" (.int 0) := D101 (Or.inr (wd25 hw)) (ty := .byte) (by decide)
  have pre104 : ∀ tt, SP pg ev below (T101.setTop (mkF mi 16 #[.val (.ref t), .val (.int (Int32.ofNat off)), .val (.int (Int32.ofNat m))] [(.int ((Int32.ofNat off) + (Int32.ofNat m))), (.int (Int32.ofNat off)), (.ref t), (.ref b101), (.ref b101)])) tt → SP pg ev below (s₁.setTop (entryFrame mi #[(.ref t), (.int (Int32.ofNat off)), (.int (Int32.ofNat m))] 3)) tt := fun tt kk => pre0 _ (by
    show SP pg ev below (s₁.setTop (mkF mi 0 #[.val (.ref t), .val (.int (Int32.ofNat off)), .val (.int (Int32.ofNat m))] [])) _
    refine XS.iloadN X0.here hx rfl (hb hby dj28_0) rfl ?_
    refine XS.ifYes X0.here hx rfl (pc0 := 1) (pc' := 7) rfl (hb hby dj28_1) rfl ((if0 _ _).trans (feq (fun q => absurd ((own_eq8 (a := m) (b := 0) (by omega) (by omega)).mp q) (by omega))).2) (by decide) (by decide) ?_
    refine st101 _ ?_
    refine XS.dup X101.here hx rfl (hb hby dj28_10) rfl rfl ?_
    refine XS.aloadN X101.here hx rfl (hb hby dj28_11) rfl rfl ?_
    refine XS.iloadN X101.here hx rfl (hb hby dj28_12) rfl ?_
    refine XS.iloadN X101.here hx rfl (hb hby dj28_13) rfl ?_
    refine XS.iloadN X101.here hx rfl (hb hby dj28_14) rfl ?_
    refine XS.iadd X101.here hx rfl (hb hby dj28_15) rfl ?_
    exact kk)
  have pre105 : ∀ tt, SP pg ev below (T101.setTop (mkF mi 16 #[.val (.ref t), .val (.int (Int32.ofNat off)), .val (.int (Int32.ofNat m))] [(.int (Int32.ofNat cs.length)), (.int (Int32.ofNat off)), (.ref t), (.ref b101), (.ref b101)])) tt → SP pg ev below (s₁.setTop (entryFrame mi #[(.ref t), (.int (Int32.ofNat off)), (.int (Int32.ofNat m))] 3)) tt := fun tt kk => pre104 tt (by rw [show ((Int32.ofNat off) + (Int32.ofNat m)) = (Int32.ofNat cs.length) from by rw [own_add32, he]]; exact kk)
  have O106 : Old Z n0 h101 := (O.ext E101)
  have f107 : Arv Z h101 t kb .byte (Int32.ofNat cs.length) (cs.map fun c => Value.int (StrChars.lo8 c)) (.int 0) := (P0_.ext E101)
  obtain ⟨v108, _, ⟨T108, L108, k108, n108⟩, -, X108, ⟨Lc108, hQ108, l108, y108, z108⟩, st108⟩ := Jvm.LawKit.callS X101 hx (y := mn32) hown (mvT hZ (wd116 hw)) (mvT hZ (wd117 hw)) (mvT hZ (wd118 hw)) (mvT hZ (wd119 hw)) (by decide) (backOf (W := 2) (rm_crc la Z a0 hw [] t kb cs.length (cs.map fun c => Value.int (StrChars.lo8 c)) off h101 n0 O106 f107 (by omega : 0 < off) (by omega : off ≤ cs.length) (by omega : cs.length ≤ 8000) (by simp : (cs.map fun c => Value.int (StrChars.lo8 c)).length = cs.length) (by omega : cs.length - off ≤ 8)) hZ (wd119 hw) (wd118 hw) (by decide) (by decide)) (g := (mkF mi 16 #[.val (.ref t), .val (.int (Int32.ofNat off)), .val (.int (Int32.ofNat m))] [(.int (Int32.ofNat cs.length)), (.int (Int32.ofNat off)), (.ref t), (.ref b101), (.ref b101)])) rfl (by rw [hml]; rfl) (argsL := [(.ref t), (.int (Int32.ofNat off)), (.int (Int32.ofNat cs.length))]) (rest := [(.ref b101), (.ref b101)]) (lenOf pd_20 rfl) rfl (Nat.le_of_ble_eq_true rfl) (hb hby dj28_16) (fun _ _ => ⟨rfl, e101, (by decide : 1 + 1 ≤ _), (by decide : 4 + 8 ≤ _)⟩)
  dsimp only [Pt.U, Pt.locs, Pt.cells, Pt.slots] at X108 l108 y108 z108 st108 hQ108
  subst l108 y108 z108
  obtain ⟨r_108, kr_108, rfl, Nq108, Kq108, fr_r_108, r108_0⟩ := hQ108
  have N108 := Fr.app N0 Nq108
  have O109 : Old Z n0 T108.heap := (O106.keep Kq108 all0)
  have f110 : Exa Z T108.heap b101 c0_ := (A101.keep Kq108)
  have f111 : Fld Z T108.heap b101 c0_ "value" "[B" .null := (f102.keep Kq108 nin0)
  have f112 : Fld Z T108.heap b101 c0_ "coder" "B" (.int 0) := (f103.keep Kq108 nin0)
  have g_b101 : n0 ≤ b101 := Nat.le_trans (Nat.le_trans (Nat.le_of_eq O.1.symm) O.2.1) (Nat.le_of_eq q101.symm)
  obtain ⟨v113, _, ⟨T113, L113, k113, n113⟩, -, X113, ⟨Lc113, hQ113, l113, y113, z113⟩, st113⟩ := X108.specialBack hx (y := mn33) rfl hown (mvT hZ (wd131 hw)) (mvT hZ (wd132 hw)) (mvT hZ (wd133 hw)) (by decide) (backOf (W := 1) (rm_sbw la Z a0 hw [] b101 r_108 (0 : Int32) T108.heap n0 O109 f110 f111 f112 g_b101 (by decide : (0 : Int32).toInt8.toInt32 = (0 : Int32))) hZ (wd133 hw) (wd11 hw) (by decide) (by decide)) (g := (mkF mi 20 #[.val (.ref t), .val (.int (Int32.ofNat off)), .val (.int (Int32.ofNat m))] [(.int 0), (.ref r_108), (.ref b101), (.ref b101)])) rfl (by rw [hml]; rfl) (Steps.refl _) (a := b101) (argsL := [(.ref r_108), (.int 0)]) (rest := [(.ref b101)]) (lenOf pd_21 rfl) rfl (Nat.le_of_ble_eq_true rfl) (hb hby dj28_20) (fun _ _ => ⟨rfl, rfl, (by decide : 2 + 0 ≤ _), (by decide : 12 + 0 ≤ _)⟩)
  dsimp only [Pt.U, Pt.locs, Pt.cells, Pt.slots] at X113 l113 y113 z113 st113 hQ113
  subst l113 y113 z113
  obtain ⟨rfl, Nq113, Kq113, r113_0, r113_1, r113_2⟩ := hQ113
  have N113 := Fr.app N108 Nq113
  have ne_b101_r_108 : b101 ≠ r_108 := Nat.ne_of_lt (Nat.lt_of_lt_of_le A101.lt (Nat.le_trans (Nat.le_refl _) fr_r_108))
  have f114 : Arv Z T113.heap r_108 kr_108 .byte (Int32.ofNat (cs.length - off)) ((cs.map fun c => Value.int (StrChars.lo8 c)).drop off) (.int 0) := (r108_0.keep Kq113 (ninS (Ne.symm ne_b101_r_108) nin0))
  have s115 : WStr Z T113.heap b101 r_108 (cs.drop off) := ⟨r113_0, r113_1, ⟨0, _, _, _, r113_2, f114, Or.inl ⟨rfl, by rw [List.length_drop], List.map_drop.symm, (fun c hc => hbl c (List.mem_of_mem_drop hc))⟩⟩, (fun c hc => hbd c (List.mem_of_mem_drop hc)), (by rw [own_dl he]; omega)⟩
  obtain ⟨fs, hr, hrun, hended, hW, hsame⟩ := X113.leave (v := some (.ref b101)) (fun hq => by rw [Bd.returns] at hq; cases hq)
  refine ⟨_, _, pre105 _ ?_, hrun, hended, _, _, rfl, ?_, ⟨_, rfl⟩, hW, hsame.mono (by decide) (by decide)⟩
  · show SP pg ev below (T101.setTop (mkF mi 16 #[.val (.ref t), .val (.int (Int32.ofNat off)), .val (.int (Int32.ofNat m))] [(.int (Int32.ofNat cs.length)), (.int (Int32.ofNat off)), (.ref t), (.ref b101), (.ref b101)])) _
    refine st108 _ ?_
    refine XS.iconst X108.here hx rfl (hb hby dj28_19) ?_
    refine st113.trans ?_
    show SP pg ev below (T113.setTop (mkF mi 23 #[.val (.ref t), .val (.int (Int32.ofNat off)), .val (.int (Int32.ofNat m))] [(.ref b101)])) _
    jvm_step X113.here [X113.here.top, hx, (hb hby dj28_23), X113.method', Bd.returns, Value.isRef, FieldType.isReference]
    first | (intro acts; rw [hr _ acts rfl rfl rfl]) | rw [hr _ _ rfl rfl rfl]
    exact Steps.refl _
  · show Q_lns Z t kb cs off m hE n0 _ T113.heap _
    exact ⟨b101, r_108, rfl, N113, ((((Keep.refl hE []).ext E101).trans Kq108 all0).trans Kq113 (allS (Or.inr (Nat.le_of_eq q101.symm)) all0)), (Nat.le_of_eq q101.symm), (Nat.le_trans E101.1 fr_r_108), s115⟩
theorem dj29_0 : decode jc29 0 = .ok (.iload_n 1, 1) := by decide +kernel
theorem dj29_1 : decode jc29 1 = .ok (.iload 4, 2) := by decide +kernel
theorem dj29_3 : decode jc29 3 = .ok (.aload_n 0, 1) := by decide +kernel
theorem dj29_4 : decode jc29 4 = .ok (.invokestatic 173, 3) := by decide +kernel
theorem dj29_7 : decode jc29 7 = .ok (.iconst 0, 1) := by decide +kernel
theorem dj29_8 : decode jc29 8 = .ok (.istore 5, 2) := by decide +kernel
theorem dj29_10 : decode jc29 10 = .ok (.iload 5, 2) := by decide +kernel
theorem dj29_12 : decode jc29 12 = .ok (.iload 4, 2) := by decide +kernel
theorem dj29_14 : decode jc29 14 = .ok (.if_icmp .ge 39, 3) := by decide +kernel
theorem dj29_17 : decode jc29 17 = .ok (.aload_n 0, 1) := by decide +kernel
theorem dj29_18 : decode jc29 18 = .ok (.iload_n 1, 1) := by decide +kernel
theorem dj29_19 : decode jc29 19 = .ok (.invokestatic 71, 3) := by decide +kernel
theorem dj29_22 : decode jc29 22 = .ok (.istore 6, 2) := by decide +kernel
theorem dj29_24 : decode jc29 24 = .ok (.iload 6, 2) := by decide +kernel
theorem dj29_26 : decode jc29 26 = .ok (.sipush 255, 3) := by decide +kernel
theorem dj29_29 : decode jc29 29 = .ok (.if_icmp .le 6, 3) := by decide +kernel
theorem dj29_32 : decode jc29 32 = .ok (.iload 5, 2) := by decide +kernel
theorem dj29_34 : decode jc29 34 = .ok (.ireturn, 1) := by decide +kernel
theorem dj29_35 : decode jc29 35 = .ok (.aload_n 2, 1) := by decide +kernel
theorem dj29_36 : decode jc29 36 = .ok (.iload_n 3, 1) := by decide +kernel
theorem dj29_37 : decode jc29 37 = .ok (.iload 6, 2) := by decide +kernel
theorem dj29_39 : decode jc29 39 = .ok (.i2b, 1) := by decide +kernel
theorem dj29_40 : decode jc29 40 = .ok (.bastore, 1) := by decide +kernel
theorem dj29_41 : decode jc29 41 = .ok (.iinc 1 1, 3) := by decide +kernel
theorem dj29_44 : decode jc29 44 = .ok (.iinc 3 1, 3) := by decide +kernel
theorem dj29_47 : decode jc29 47 = .ok (.iinc 5 1, 3) := by decide +kernel
theorem dj29_50 : decode jc29 50 = .ok (.goto (-40), 3) := by decide +kernel
theorem dj29_53 : decode jc29 53 = .ok (.iload 4, 2) := by decide +kernel
theorem dj29_55 : decode jc29 55 = .ok (.ireturn, 1) := by decide +kernel
theorem ef_cu3 (mi : MethodId) (t : Addr) (r0 : Addr) (off : Nat) : entryFrame mi #[(.ref t), (.int (Int32.ofNat off)), (.ref r0), (.int 0), (.int 3)] 7 = mkF mi 0 #[.val (.ref t), .val (.int (Int32.ofNat off)), .val (.ref r0), .val (.int 0), .val (.int 3), .unset, .unset] [] := rfl
def Q_cu3 (Z : State) (t r0 : Addr) (kt kr : ClassId) (cs : List Int32) (off : Nat) (fm : Value) (hE : Heap) (n0 : Nat) (vv : Option Value) (hh : Heap) (LL : List Loc) : Prop := ∃ r : Int32, ∃ vs : List Value, (vv = some (.int r)) ∧ (Fr n0 LL) ∧ (Keep hE hh [r0]) ∧ (Arv Z hh r0 kr .byte (3 : Int32) vs (.int 0)) ∧ (CpR (cs.drop off) r vs)
theorem rm_cu3 (hw : HW a0 Z) (ws : List Cond) (t r0 : Addr) (kt kr : ClassId) (cs : List Int32) (off : Nat) (fm : Value) (hE : Heap) (n0 : Nat) (O : Old Z n0 hE) (P0_ : Arv Z hE t kt .byte (Int32.ofNat (2 * cs.length)) (StrChars.Road.wideBytes cs) (.int 0)) (P1_ : Arv Z hE r0 kr .byte (3 : Int32) [(.int 0), (.int 0), (.int 0)] (.int 0)) (D0_ : Sta Z Z.heap c1_ c6_ "Z" (.int 1)) (D1_ : Sta Z Z.heap c1_ c9_ "I" (.int 0)) (D2_ : Sta Z Z.heap c1_ c10_ "I" (.int 8)) (D3_ : Sta Z Z.heap c3_ c7_ c4_ fm) (g_r0 : n0 ≤ r0) (ne_t_r0 : t ≠ r0) (he : off + 3 = cs.length) (h4 : cs.length ≤ 4) (hbd : ∀ c ∈ cs, ¬ c < 0 ∧ ¬ (65535 : Int32) < c) (hfm : fm.isRef = true) :
    MF la Z hE mn35 jc29 7 (some .int) ws (rr 3 0 0 43) #[(.ref t), (.int (Int32.ofNat off)), (.ref r0), (.int 0), (.int 3)] (Q_cu3 Z t r0 kt kr cs off fm hE n0) := by
  refine MetFree.of_bodySF (plainFor_of_name pn_java_lang_StringUTF16) hisR ?_
  intro pg ev sb mi gs below me cd s₁ Bd hml0 hPt hKt
  obtain ⟨rfl, hZ, hh⟩ := hPt
  have hx := Bd.exec
  have hby := Bd.bytes
  have hml : cd.maxLocals = 7 := hml0
  have hown : sb.vm.findClass c1_ = some mi.cls := findClass_of_methodNamed Bd.named
  have X0 : Stand pg la ev (rr 3 0 0 43) sb mi #[(.ref t), (.int (Int32.ofNat off)), (.ref r0), (.int 0), (.int 3)] below me cd s₁ [] 0 0 := Stand.of_body Bd
  have eE : s₁.heap = hE := by rw [← hh, Bd.state]; rfl
  have N0 := Fr.nil n0
  have pre0 : ∀ tt, SP pg ev below (s₁.setTop (mkF mi 0 #[.val (.ref t), .val (.int (Int32.ofNat off)), .val (.ref r0), .val (.int 0), .val (.int 3), .unset, .unset] [])) tt → SP pg ev below (s₁.setTop (entryFrame mi #[(.ref t), (.int (Int32.ofNat off)), (.ref r0), (.int 0), (.int 3)] 7)) tt := fun tt kk => castTop (ef_cu3 mi t r0 off) kk
  obtain ⟨v101, _, ⟨T101, L101, k101, n101⟩, -, X101, ⟨Lc101, hQ101, l101, y101, z101⟩, st101⟩ := Jvm.LawKit.callS X0 hx (y := mn13) hown (mvT hZ (wd199 hw)) (mvT hZ (wd200 hw)) (mvT hZ (wd83 hw)) (mvT hZ (wd201 hw)) (by decide) (backOf (W := 0) (rm_ubo la Z a0 hw [] (Int32.ofNat off) (3 : Int32) t kt cs fm hE n0 O P0_ D3_ (own_or_nn (own_or_nn (own_nn8 (by omega)) (own_nn8 (by omega))) (by decide) : ¬ ((((Int32.ofNat cs.length) ||| (Int32.ofNat off)) ||| (3 : Int32)) < (0 : Int32))) (by rw [own_sub32 (by omega)]; exact fun q => absurd ((own_lt8 (a := cs.length - off) (b := 3) (by omega) (by omega)).mp q) (by omega) : ¬ (((Int32.ofNat cs.length) - (Int32.ofNat off)) < (3 : Int32))) (by omega : cs.length ≤ 4000) (hfm : fm.isRef = true)) hZ (wd201 hw) (wd83 hw) (by decide) (by decide)) (g := (mkF mi 4 #[.val (.ref t), .val (.int (Int32.ofNat off)), .val (.ref r0), .val (.int 0), .val (.int 3), .unset, .unset] [(.ref t), (.int 3), (.int (Int32.ofNat off))])) rfl (by rw [hml]; rfl) (argsL := [(.int (Int32.ofNat off)), (.int 3), (.ref t)]) (rest := []) (lenOf pd_16 rfl) rfl (Nat.le_of_ble_eq_true rfl) (hb hby dj29_4) (fun _ _ => ⟨rfl, eE, (by decide : 0 + 0 ≤ _), (by decide : 0 + 0 ≤ _)⟩)
  dsimp only [Pt.U, Pt.locs, Pt.cells, Pt.slots] at X101 l101 y101 z101 st101 hQ101
  subst l101 y101 z101
  obtain ⟨rfl, Nq101, ek101⟩ := hQ101
  have N101 := Fr.app N0 Nq101
  obtain ⟨v102, _, ⟨T102, L102, k102, n102⟩, -, X102, ⟨Lc102, hQ102, l102, y102, z102⟩, st102⟩ := Jvm.LawKit.callS X101 hx (y := mn0) hown (mvT hZ (wd166 hw)) (mvT hZ (wd167 hw)) (mvT hZ (wd83 hw)) (mvT hZ (wd168 hw)) (by decide) (backOf (W := 0) (rm_gch la Z a0 hw [] t (Int32.ofNat off) kt cs off hE n0 O P0_ D0_ D1_ D2_ (by first | rfl | simp only [show (1 : Int32) = Int32.ofNat 1 from rfl, own_add32] : (Int32.ofNat off) = Int32.ofNat off) (by omega : off < cs.length) (by omega : cs.length ≤ 4000) (hbd : ∀ c ∈ cs, ¬ c < 0 ∧ ¬ (65535 : Int32) < c)) hZ (wd168 hw) (wd83 hw) (by decide) (by decide)) (g := (mkF mi 19 #[.val (.ref t), .val (.int (Int32.ofNat off)), .val (.ref r0), .val (.int 0), .val (.int 3), .val (.int 0), .unset] [(.int (Int32.ofNat off)), (.ref t)])) rfl (by rw [hml]; rfl) (argsL := [(.ref t), (.int (Int32.ofNat off))]) (rest := []) (lenOf pd_10 rfl) rfl (Nat.le_of_ble_eq_true rfl) (hb hby dj29_19) (fun _ _ => ⟨rfl, ek101, (by decide : 0 + 0 ≤ _), (by decide : 0 + 0 ≤ _)⟩)
  dsimp only [Pt.U, Pt.locs, Pt.cells, Pt.slots] at X102 l102 y102 z102 st102 hQ102
  subst l102 y102 z102
  obtain ⟨rfl, Nq102, ek102⟩ := hQ102
  have N102 := Fr.app N101 Nq102
  have pre104 : ∀ tt, SP pg ev below (T102.setTop (mkF mi 29 #[.val (.ref t), .val (.int (Int32.ofNat off)), .val (.ref r0), .val (.int 0), .val (.int 3), .val (.int 0), .val (.int (cs.getD off 0))] [(.int 255), (.int (cs.getD off 0))])) tt → SP pg ev below (s₁.setTop (entryFrame mi #[(.ref t), (.int (Int32.ofNat off)), (.ref r0), (.int 0), (.int 3)] 7)) tt := fun tt kk => pre0 _ (by
    show SP pg ev below (s₁.setTop (mkF mi 0 #[.val (.ref t), .val (.int (Int32.ofNat off)), .val (.ref r0), .val (.int 0), .val (.int 3), .unset, .unset] [])) _
    refine XS.iloadN X0.here hx rfl (hb hby dj29_0) rfl ?_
    refine XS.iload X0.here hx rfl (hb hby dj29_1) rfl ?_
    refine XS.aloadN X0.here hx rfl (hb hby dj29_3) rfl rfl ?_
    refine st101 _ ?_
    refine XS.iconst X101.here hx rfl (hb hby dj29_7) ?_
    refine XS.istore X101.here hx rfl (hb hby dj29_8) rfl (l' := #[.val (.ref t), .val (.int (Int32.ofNat off)), .val (.ref r0), .val (.int 0), .val (.int 3), .val (.int 0), .unset]) rfl ?_
    refine XS.iload X101.here hx rfl (hb hby dj29_10) rfl ?_
    refine XS.iload X101.here hx rfl (hb hby dj29_12) rfl ?_
    refine XS.icmpNo X101.here hx rfl (hb hby dj29_14) rfl (tlt (by decide : (0 : Int32) < (3 : Int32))).2.1 ?_
    refine XS.aloadN X101.here hx rfl (hb hby dj29_17) rfl rfl ?_
    refine XS.iloadN X101.here hx rfl (hb hby dj29_18) rfl ?_
    refine st102 _ ?_
    refine XS.istore X102.here hx rfl (hb hby dj29_22) rfl (l' := #[.val (.ref t), .val (.int (Int32.ofNat off)), .val (.ref r0), .val (.int 0), .val (.int 3), .val (.int 0), .val (.int (cs.getD off 0))]) rfl ?_
    refine XS.iload X102.here hx rfl (hb hby dj29_24) rfl ?_
    refine XS.sipush X102.here hx rfl (hb hby dj29_26) ?_
    exact kk)
  by_cases hc103 : (255 : Int32) < (cs.getD off 0)
  · obtain ⟨fs, hr, hrun, hended, hW, hsame⟩ := X102.leave (v := some (.int 0)) (fun hq => by rw [Bd.returns] at hq; cases hq)
    refine ⟨_, _, pre104 _ ?_, hrun, hended, _, _, rfl, ?_, ⟨_, rfl⟩, hW, hsame.mono (by decide) (by decide)⟩
    · show SP pg ev below (T102.setTop (mkF mi 29 #[.val (.ref t), .val (.int (Int32.ofNat off)), .val (.ref r0), .val (.int 0), .val (.int 3), .val (.int 0), .val (.int (cs.getD off 0))] [(.int 255), (.int (cs.getD off 0))])) _
      refine XS.icmpNo X102.here hx rfl (hb hby dj29_29) rfl (tlt hc103).2.2.2 ?_
      refine XS.iload X102.here hx rfl (hb hby dj29_32) rfl ?_
      show SP pg ev below (T102.setTop (mkF mi 34 #[.val (.ref t), .val (.int (Int32.ofNat off)), .val (.ref r0), .val (.int 0), .val (.int 3), .val (.int 0), .val (.int (cs.getD off 0))] [(.int 0)])) _
      exact retI X102 hx Bd.returns (hb hby dj29_34) hr
    · show Q_cu3 Z t r0 kt kr cs off fm hE n0 _ T102.heap _
      rw [ek102]
      exact ⟨(0 : Int32), [(.int 0), (.int 0), (.int 0)], rfl, N102, (Keep.refl hE [r0]), P1_, (by rw [own_drop3 he]; exact Or.inr ⟨0, Nat.le_of_ble_eq_true rfl, rfl, hc103⟩)⟩
  · obtain ⟨cl105, Ar105, qq105, Sz105, Nn105, Hh105, Gg105⟩ := id P1_
    have hin105 : ¬ ((0 : Int32) < 0 ∨ cl105.slots.size ≤ ((0 : Int32)).toNatClampNeg) := inb_of Sz105 ⟨by decide, by decide⟩
    obtain ⟨T105, h105, X105, e105, W105, st105⟩ := stB X102 hx hZ ek102 Ar105 (j := (0 : Int32)) hin105 (g := (mkF mi 40 #[.val (.ref t), .val (.int (Int32.ofNat off)), .val (.ref r0), .val (.int 0), .val (.int 3), .val (.int 0), .val (.int (cs.getD off 0))] [(.int ((cs.getD off 0).toInt8.toInt32)), (.int 0), (.ref r0)])) rfl rfl (hb hby dj29_40)
    have N105 := Fr.snoc X105 N102 g_r0
    have f106 : Arv Z h105 r0 kr .byte (3 : Int32) [(.int (((cs.getD off 0).toInt8.toInt32)).toInt8.toInt32), (.int 0), (.int 0)] (.int 0) := Arv.set Ar105 qq105 Sz105 Nn105 Hh105 Gg105 (fits_nar_byte _) W105 0 rfl (Nat.le_of_ble_eq_true rfl)
    have O107 : Old Z n0 h105 := (O.keep (Keep.of_wr W105) (allS g_r0 all0))
    have f108 : Arv Z h105 t kt .byte (Int32.ofNat (2 * cs.length)) (StrChars.Road.wideBytes cs) (.int 0) := (P0_.keep (Keep.of_wr W105) (ninS ne_t_r0 nin0))
    obtain ⟨v109, _, ⟨T109, L109, k109, n109⟩, -, X109, ⟨Lc109, hQ109, l109, y109, z109⟩, st109⟩ := Jvm.LawKit.callS X105 hx (y := mn0) hown (mvT hZ (wd166 hw)) (mvT hZ (wd167 hw)) (mvT hZ (wd83 hw)) (mvT hZ (wd168 hw)) (by decide) (backOf (W := 0) (rm_gch la Z a0 hw [] t ((Int32.ofNat off) + (1 : Int32)) kt cs (off + 1) h105 n0 O107 f108 D0_ D1_ D2_ (by first | rfl | simp only [show (1 : Int32) = Int32.ofNat 1 from rfl, own_add32] : ((Int32.ofNat off) + (1 : Int32)) = Int32.ofNat (off + 1)) (by omega : (off + 1) < cs.length) (by omega : cs.length ≤ 4000) (hbd : ∀ c ∈ cs, ¬ c < 0 ∧ ¬ (65535 : Int32) < c)) hZ (wd168 hw) (wd83 hw) (by decide) (by decide)) (g := (mkF mi 19 #[.val (.ref t), .val (.int ((Int32.ofNat off) + (1 : Int32))), .val (.ref r0), .val (.int 1), .val (.int 3), .val (.int 1), .val (.int (cs.getD off 0))] [(.int ((Int32.ofNat off) + (1 : Int32))), (.ref t)])) rfl (by rw [hml]; rfl) (argsL := [(.ref t), (.int ((Int32.ofNat off) + (1 : Int32)))]) (rest := []) (lenOf pd_10 rfl) rfl (Nat.le_of_ble_eq_true rfl) (hb hby dj29_19) (fun _ _ => ⟨rfl, e105, (by decide : 0 + 0 ≤ _), (by decide : 0 + 0 ≤ _)⟩)
    dsimp only [Pt.U, Pt.locs, Pt.cells, Pt.slots] at X109 l109 y109 z109 st109 hQ109
    subst l109 y109 z109
    obtain ⟨rfl, Nq109, ek109⟩ := hQ109
    have N109 := Fr.app N105 Nq109
    have pre111 : ∀ tt, SP pg ev below (T109.setTop (mkF mi 29 #[.val (.ref t), .val (.int ((Int32.ofNat off) + (1 : Int32))), .val (.ref r0), .val (.int 1), .val (.int 3), .val (.int 1), .val (.int (cs.getD (off + 1) 0))] [(.int 255), (.int (cs.getD (off + 1) 0))])) tt → SP pg ev below (s₁.setTop (entryFrame mi #[(.ref t), (.int (Int32.ofNat off)), (.ref r0), (.int 0), (.int 3)] 7)) tt := fun tt kk => pre104 _ (by
      show SP pg ev below (T102.setTop (mkF mi 29 #[.val (.ref t), .val (.int (Int32.ofNat off)), .val (.ref r0), .val (.int 0), .val (.int 3), .val (.int 0), .val (.int (cs.getD off 0))] [(.int 255), (.int (cs.getD off 0))])) _
      refine XS.icmpYes X102.here hx rfl (pc0 := 29) (pc' := 35) rfl (hb hby dj29_29) rfl (flt hc103).2.2.2 (by decide) (by decide) ?_
      refine XS.aloadN X102.here hx rfl (hb hby dj29_35) rfl rfl ?_
      refine XS.iloadN X102.here hx rfl (hb hby dj29_36) rfl ?_
      refine XS.iload X102.here hx rfl (hb hby dj29_37) rfl ?_
      refine XS.i2b X102.here hx rfl (hb hby dj29_39) rfl ?_
      refine st105 _ ?_
      refine XS.iinc X105.here hx rfl (hb hby dj29_41) rfl (l' := #[.val (.ref t), .val (.int ((Int32.ofNat off) + (1 : Int32))), .val (.ref r0), .val (.int 0), .val (.int 3), .val (.int 0), .val (.int (cs.getD off 0))]) rfl ?_
      refine XS.iinc X105.here hx rfl (hb hby dj29_44) rfl (l' := #[.val (.ref t), .val (.int ((Int32.ofNat off) + (1 : Int32))), .val (.ref r0), .val (.int 1), .val (.int 3), .val (.int 0), .val (.int (cs.getD off 0))]) rfl ?_
      refine XS.iinc X105.here hx rfl (hb hby dj29_47) rfl (l' := #[.val (.ref t), .val (.int ((Int32.ofNat off) + (1 : Int32))), .val (.ref r0), .val (.int 1), .val (.int 3), .val (.int 1), .val (.int (cs.getD off 0))]) rfl ?_
      refine XS.goto X105.here hx rfl (pc0 := 50) (pc' := 10) rfl (hb hby dj29_50) (by decide) (by decide) ?_
      refine XS.iload X105.here hx rfl (hb hby dj29_10) rfl ?_
      refine XS.iload X105.here hx rfl (hb hby dj29_12) rfl ?_
      refine XS.icmpNo X105.here hx rfl (hb hby dj29_14) rfl (tlt (by decide : (1 : Int32) < (3 : Int32))).2.1 ?_
      refine XS.aloadN X105.here hx rfl (hb hby dj29_17) rfl rfl ?_
      refine XS.iloadN X105.here hx rfl (hb hby dj29_18) rfl ?_
      refine st109 _ ?_
      refine XS.istore X109.here hx rfl (hb hby dj29_22) rfl (l' := #[.val (.ref t), .val (.int ((Int32.ofNat off) + (1 : Int32))), .val (.ref r0), .val (.int 1), .val (.int 3), .val (.int 1), .val (.int (cs.getD (off + 1) 0))]) rfl ?_
      refine XS.iload X109.here hx rfl (hb hby dj29_24) rfl ?_
      refine XS.sipush X109.here hx rfl (hb hby dj29_26) ?_
      exact kk)
    by_cases hc110 : (255 : Int32) < (cs.getD (off + 1) 0)
    · obtain ⟨fs, hr, hrun, hended, hW, hsame⟩ := X109.leave (v := some (.int 1)) (fun hq => by rw [Bd.returns] at hq; cases hq)
      refine ⟨_, _, pre111 _ ?_, hrun, hended, _, _, rfl, ?_, ⟨_, rfl⟩, hW, hsame.mono (by decide) (by decide)⟩
      · show SP pg ev below (T109.setTop (mkF mi 29 #[.val (.ref t), .val (.int ((Int32.ofNat off) + (1 : Int32))), .val (.ref r0), .val (.int 1), .val (.int 3), .val (.int 1), .val (.int (cs.getD (off + 1) 0))] [(.int 255), (.int (cs.getD (off + 1) 0))])) _
        refine XS.icmpNo X109.here hx rfl (hb hby dj29_29) rfl (tlt hc110).2.2.2 ?_
        refine XS.iload X109.here hx rfl (hb hby dj29_32) rfl ?_
        show SP pg ev below (T109.setTop (mkF mi 34 #[.val (.ref t), .val (.int ((Int32.ofNat off) + (1 : Int32))), .val (.ref r0), .val (.int 1), .val (.int 3), .val (.int 1), .val (.int (cs.getD (off + 1) 0))] [(.int 1)])) _
        exact retI X109 hx Bd.returns (hb hby dj29_34) hr
      · show Q_cu3 Z t r0 kt kr cs off fm hE n0 _ T109.heap _
        rw [ek109]
        exact ⟨(1 : Int32), [(.int (((cs.getD off 0).toInt8.toInt32)).toInt8.toInt32), (.int 0), (.int 0)], rfl, N109, ((Keep.refl hE [r0]).trans (Keep.of_wr W105) (allS (Or.inl (List.mem_of_getElem? (i := 0) rfl)) all0)), f106, (by rw [own_drop3 he]; exact Or.inr ⟨1, Nat.le_of_ble_eq_true rfl, rfl, hc110⟩)⟩
    · obtain ⟨cl112, Ar112, qq112, Sz112, Nn112, Hh112, Gg112⟩ := id f106
      have hin112 : ¬ ((1 : Int32) < 0 ∨ cl112.slots.size ≤ ((1 : Int32)).toNatClampNeg) := inb_of Sz112 ⟨by decide, by decide⟩
      obtain ⟨T112, h112, X112, e112, W112, st112⟩ := stB X109 hx hZ ek109 Ar112 (j := (1 : Int32)) hin112 (g := (mkF mi 40 #[.val (.ref t), .val (.int ((Int32.ofNat off) + (1 : Int32))), .val (.ref r0), .val (.int 1), .val (.int 3), .val (.int 1), .val (.int (cs.getD (off + 1) 0))] [(.int ((cs.getD (off + 1) 0).toInt8.toInt32)), (.int 1), (.ref r0)])) rfl rfl (hb hby dj29_40)
      have N112 := Fr.snoc X112 N109 g_r0
      have f113 : Arv Z h112 r0 kr .byte (3 : Int32) [(.int (((cs.getD off 0).toInt8.toInt32)).toInt8.toInt32), (.int (((cs.getD (off + 1) 0).toInt8.toInt32)).toInt8.toInt32), (.int 0)] (.int 0) := Arv.set Ar112 qq112 Sz112 Nn112 Hh112 Gg112 (fits_nar_byte _) W112 1 rfl (Nat.le_of_ble_eq_true rfl)
      have O114 : Old Z n0 h112 := (O107.keep (Keep.of_wr W112) (allS g_r0 all0))
      have f115 : Arv Z h112 t kt .byte (Int32.ofNat (2 * cs.length)) (StrChars.Road.wideBytes cs) (.int 0) := (f108.keep (Keep.of_wr W112) (ninS ne_t_r0 nin0))
      obtain ⟨v116, _, ⟨T116, L116, k116, n116⟩, -, X116, ⟨Lc116, hQ116, l116, y116, z116⟩, st116⟩ := Jvm.LawKit.callS X112 hx (y := mn0) hown (mvT hZ (wd166 hw)) (mvT hZ (wd167 hw)) (mvT hZ (wd83 hw)) (mvT hZ (wd168 hw)) (by decide) (backOf (W := 0) (rm_gch la Z a0 hw [] t (((Int32.ofNat off) + (1 : Int32)) + (1 : Int32)) kt cs (off + 2) h112 n0 O114 f115 D0_ D1_ D2_ (by first | rfl | simp only [show (1 : Int32) = Int32.ofNat 1 from rfl, own_add32] : (((Int32.ofNat off) + (1 : Int32)) + (1 : Int32)) = Int32.ofNat (off + 2)) (by omega : (off + 2) < cs.length) (by omega : cs.length ≤ 4000) (hbd : ∀ c ∈ cs, ¬ c < 0 ∧ ¬ (65535 : Int32) < c)) hZ (wd168 hw) (wd83 hw) (by decide) (by decide)) (g := (mkF mi 19 #[.val (.ref t), .val (.int (((Int32.ofNat off) + (1 : Int32)) + (1 : Int32))), .val (.ref r0), .val (.int 2), .val (.int 3), .val (.int 2), .val (.int (cs.getD (off + 1) 0))] [(.int (((Int32.ofNat off) + (1 : Int32)) + (1 : Int32))), (.ref t)])) rfl (by rw [hml]; rfl) (argsL := [(.ref t), (.int (((Int32.ofNat off) + (1 : Int32)) + (1 : Int32)))]) (rest := []) (lenOf pd_10 rfl) rfl (Nat.le_of_ble_eq_true rfl) (hb hby dj29_19) (fun _ _ => ⟨rfl, e112, (by decide : 0 + 0 ≤ _), (by decide : 0 + 0 ≤ _)⟩)
      dsimp only [Pt.U, Pt.locs, Pt.cells, Pt.slots] at X116 l116 y116 z116 st116 hQ116
      subst l116 y116 z116
      obtain ⟨rfl, Nq116, ek116⟩ := hQ116
      have N116 := Fr.app N112 Nq116
      have pre118 : ∀ tt, SP pg ev below (T116.setTop (mkF mi 29 #[.val (.ref t), .val (.int (((Int32.ofNat off) + (1 : Int32)) + (1 : Int32))), .val (.ref r0), .val (.int 2), .val (.int 3), .val (.int 2), .val (.int (cs.getD (off + 2) 0))] [(.int 255), (.int (cs.getD (off + 2) 0))])) tt → SP pg ev below (s₁.setTop (entryFrame mi #[(.ref t), (.int (Int32.ofNat off)), (.ref r0), (.int 0), (.int 3)] 7)) tt := fun tt kk => pre111 _ (by
        show SP pg ev below (T109.setTop (mkF mi 29 #[.val (.ref t), .val (.int ((Int32.ofNat off) + (1 : Int32))), .val (.ref r0), .val (.int 1), .val (.int 3), .val (.int 1), .val (.int (cs.getD (off + 1) 0))] [(.int 255), (.int (cs.getD (off + 1) 0))])) _
        refine XS.icmpYes X109.here hx rfl (pc0 := 29) (pc' := 35) rfl (hb hby dj29_29) rfl (flt hc110).2.2.2 (by decide) (by decide) ?_
        refine XS.aloadN X109.here hx rfl (hb hby dj29_35) rfl rfl ?_
        refine XS.iloadN X109.here hx rfl (hb hby dj29_36) rfl ?_
        refine XS.iload X109.here hx rfl (hb hby dj29_37) rfl ?_
        refine XS.i2b X109.here hx rfl (hb hby dj29_39) rfl ?_
        refine st112 _ ?_
        refine XS.iinc X112.here hx rfl (hb hby dj29_41) rfl (l' := #[.val (.ref t), .val (.int (((Int32.ofNat off) + (1 : Int32)) + (1 : Int32))), .val (.ref r0), .val (.int 1), .val (.int 3), .val (.int 1), .val (.int (cs.getD (off + 1) 0))]) rfl ?_
        refine XS.iinc X112.here hx rfl (hb hby dj29_44) rfl (l' := #[.val (.ref t), .val (.int (((Int32.ofNat off) + (1 : Int32)) + (1 : Int32))), .val (.ref r0), .val (.int 2), .val (.int 3), .val (.int 1), .val (.int (cs.getD (off + 1) 0))]) rfl ?_
        refine XS.iinc X112.here hx rfl (hb hby dj29_47) rfl (l' := #[.val (.ref t), .val (.int (((Int32.ofNat off) + (1 : Int32)) + (1 : Int32))), .val (.ref r0), .val (.int 2), .val (.int 3), .val (.int 2), .val (.int (cs.getD (off + 1) 0))]) rfl ?_
        refine XS.goto X112.here hx rfl (pc0 := 50) (pc' := 10) rfl (hb hby dj29_50) (by decide) (by decide) ?_
        refine XS.iload X112.here hx rfl (hb hby dj29_10) rfl ?_
        refine XS.iload X112.here hx rfl (hb hby dj29_12) rfl ?_
        refine XS.icmpNo X112.here hx rfl (hb hby dj29_14) rfl (tlt (by decide : (2 : Int32) < (3 : Int32))).2.1 ?_
        refine XS.aloadN X112.here hx rfl (hb hby dj29_17) rfl rfl ?_
        refine XS.iloadN X112.here hx rfl (hb hby dj29_18) rfl ?_
        refine st116 _ ?_
        refine XS.istore X116.here hx rfl (hb hby dj29_22) rfl (l' := #[.val (.ref t), .val (.int (((Int32.ofNat off) + (1 : Int32)) + (1 : Int32))), .val (.ref r0), .val (.int 2), .val (.int 3), .val (.int 2), .val (.int (cs.getD (off + 2) 0))]) rfl ?_
        refine XS.iload X116.here hx rfl (hb hby dj29_24) rfl ?_
        refine XS.sipush X116.here hx rfl (hb hby dj29_26) ?_
        exact kk)
      by_cases hc117 : (255 : Int32) < (cs.getD (off + 2) 0)
      · obtain ⟨fs, hr, hrun, hended, hW, hsame⟩ := X116.leave (v := some (.int 2)) (fun hq => by rw [Bd.returns] at hq; cases hq)
        refine ⟨_, _, pre118 _ ?_, hrun, hended, _, _, rfl, ?_, ⟨_, rfl⟩, hW, hsame.mono (by decide) (by decide)⟩
        · show SP pg ev below (T116.setTop (mkF mi 29 #[.val (.ref t), .val (.int (((Int32.ofNat off) + (1 : Int32)) + (1 : Int32))), .val (.ref r0), .val (.int 2), .val (.int 3), .val (.int 2), .val (.int (cs.getD (off + 2) 0))] [(.int 255), (.int (cs.getD (off + 2) 0))])) _
          refine XS.icmpNo X116.here hx rfl (hb hby dj29_29) rfl (tlt hc117).2.2.2 ?_
          refine XS.iload X116.here hx rfl (hb hby dj29_32) rfl ?_
          show SP pg ev below (T116.setTop (mkF mi 34 #[.val (.ref t), .val (.int (((Int32.ofNat off) + (1 : Int32)) + (1 : Int32))), .val (.ref r0), .val (.int 2), .val (.int 3), .val (.int 2), .val (.int (cs.getD (off + 2) 0))] [(.int 2)])) _
          exact retI X116 hx Bd.returns (hb hby dj29_34) hr
        · show Q_cu3 Z t r0 kt kr cs off fm hE n0 _ T116.heap _
          rw [ek116]
          exact ⟨(2 : Int32), [(.int (((cs.getD off 0).toInt8.toInt32)).toInt8.toInt32), (.int (((cs.getD (off + 1) 0).toInt8.toInt32)).toInt8.toInt32), (.int 0)], rfl, N116, (((Keep.refl hE [r0]).trans (Keep.of_wr W105) (allS (Or.inl (List.mem_of_getElem? (i := 0) rfl)) all0)).trans (Keep.of_wr W112) (allS (Or.inl (List.mem_of_getElem? (i := 0) rfl)) all0)), f113, (by rw [own_drop3 he]; exact Or.inr ⟨2, Nat.le_of_ble_eq_true rfl, rfl, hc117⟩)⟩
      · obtain ⟨cl119, Ar119, qq119, Sz119, Nn119, Hh119, Gg119⟩ := id f113
        have hin119 : ¬ ((2 : Int32) < 0 ∨ cl119.slots.size ≤ ((2 : Int32)).toNatClampNeg) := inb_of Sz119 ⟨by decide, by decide⟩
        obtain ⟨T119, h119, X119, e119, W119, st119⟩ := stB X116 hx hZ ek116 Ar119 (j := (2 : Int32)) hin119 (g := (mkF mi 40 #[.val (.ref t), .val (.int (((Int32.ofNat off) + (1 : Int32)) + (1 : Int32))), .val (.ref r0), .val (.int 2), .val (.int 3), .val (.int 2), .val (.int (cs.getD (off + 2) 0))] [(.int ((cs.getD (off + 2) 0).toInt8.toInt32)), (.int 2), (.ref r0)])) rfl rfl (hb hby dj29_40)
        have N119 := Fr.snoc X119 N116 g_r0
        have f120 : Arv Z h119 r0 kr .byte (3 : Int32) [(.int (((cs.getD off 0).toInt8.toInt32)).toInt8.toInt32), (.int (((cs.getD (off + 1) 0).toInt8.toInt32)).toInt8.toInt32), (.int (((cs.getD (off + 2) 0).toInt8.toInt32)).toInt8.toInt32)] (.int 0) := Arv.set Ar119 qq119 Sz119 Nn119 Hh119 Gg119 (fits_nar_byte _) W119 2 rfl (Nat.le_of_ble_eq_true rfl)
        have f121 : Arv Z h119 r0 kr .byte (3 : Int32) [(.int (cs.getD off 0).toInt8.toInt32), (.int (cs.getD (off + 1) 0).toInt8.toInt32), (.int (cs.getD (off + 2) 0).toInt8.toInt32)] (.int 0) := by simpa only [own_i8] using f120
        have f122 : Arv Z h119 r0 kr .byte (3 : Int32) [(.int (StrChars.lo8 (cs.getD off 0))), (.int (StrChars.lo8 (cs.getD (off + 1) 0))), (.int (StrChars.lo8 (cs.getD (off + 2) 0)))] (.int 0) := f121
        obtain ⟨fs, hr, hrun, hended, hW, hsame⟩ := X119.leave (v := some (.int 3)) (fun hq => by rw [Bd.returns] at hq; cases hq)
        refine ⟨_, _, pre118 _ ?_, hrun, hended, _, _, rfl, ?_, ⟨_, rfl⟩, hW, hsame.mono (by decide) (by decide)⟩
        · show SP pg ev below (T116.setTop (mkF mi 29 #[.val (.ref t), .val (.int (((Int32.ofNat off) + (1 : Int32)) + (1 : Int32))), .val (.ref r0), .val (.int 2), .val (.int 3), .val (.int 2), .val (.int (cs.getD (off + 2) 0))] [(.int 255), (.int (cs.getD (off + 2) 0))])) _
          refine XS.icmpYes X116.here hx rfl (pc0 := 29) (pc' := 35) rfl (hb hby dj29_29) rfl (flt hc117).2.2.2 (by decide) (by decide) ?_
          refine XS.aloadN X116.here hx rfl (hb hby dj29_35) rfl rfl ?_
          refine XS.iloadN X116.here hx rfl (hb hby dj29_36) rfl ?_
          refine XS.iload X116.here hx rfl (hb hby dj29_37) rfl ?_
          refine XS.i2b X116.here hx rfl (hb hby dj29_39) rfl ?_
          refine st119 _ ?_
          refine XS.iinc X119.here hx rfl (hb hby dj29_41) rfl (l' := #[.val (.ref t), .val (.int ((((Int32.ofNat off) + (1 : Int32)) + (1 : Int32)) + (1 : Int32))), .val (.ref r0), .val (.int 2), .val (.int 3), .val (.int 2), .val (.int (cs.getD (off + 2) 0))]) rfl ?_
          refine XS.iinc X119.here hx rfl (hb hby dj29_44) rfl (l' := #[.val (.ref t), .val (.int ((((Int32.ofNat off) + (1 : Int32)) + (1 : Int32)) + (1 : Int32))), .val (.ref r0), .val (.int 3), .val (.int 3), .val (.int 2), .val (.int (cs.getD (off + 2) 0))]) rfl ?_
          refine XS.iinc X119.here hx rfl (hb hby dj29_47) rfl (l' := #[.val (.ref t), .val (.int ((((Int32.ofNat off) + (1 : Int32)) + (1 : Int32)) + (1 : Int32))), .val (.ref r0), .val (.int 3), .val (.int 3), .val (.int 3), .val (.int (cs.getD (off + 2) 0))]) rfl ?_
          refine XS.goto X119.here hx rfl (pc0 := 50) (pc' := 10) rfl (hb hby dj29_50) (by decide) (by decide) ?_
          refine XS.iload X119.here hx rfl (hb hby dj29_10) rfl ?_
          refine XS.iload X119.here hx rfl (hb hby dj29_12) rfl ?_
          refine XS.icmpYes X119.here hx rfl (pc0 := 14) (pc' := 53) rfl (hb hby dj29_14) rfl (flt (fun q => absurd q (by simp [Int32.lt_irrefl]) : ¬ ((3 : Int32) < (3 : Int32)))).2.1 (by decide) (by decide) ?_
          refine XS.iload X119.here hx rfl (hb hby dj29_53) rfl ?_
          show SP pg ev below (T119.setTop (mkF mi 55 #[.val (.ref t), .val (.int ((((Int32.ofNat off) + (1 : Int32)) + (1 : Int32)) + (1 : Int32))), .val (.ref r0), .val (.int 3), .val (.int 3), .val (.int 3), .val (.int (cs.getD (off + 2) 0))] [(.int 3)])) _
          exact retI X119 hx Bd.returns (hb hby dj29_55) hr
        · show Q_cu3 Z t r0 kt kr cs off fm hE n0 _ T119.heap _
          rw [e119]
          exact ⟨(3 : Int32), [(.int (StrChars.lo8 (cs.getD off 0))), (.int (StrChars.lo8 (cs.getD (off + 1) 0))), (.int (StrChars.lo8 (cs.getD (off + 2) 0)))], rfl, N119, ((((Keep.refl hE [r0]).trans (Keep.of_wr W105) (allS (Or.inl (List.mem_of_getElem? (i := 0) rfl)) all0)).trans (Keep.of_wr W112) (allS (Or.inl (List.mem_of_getElem? (i := 0) rfl)) all0)).trans (Keep.of_wr W119) (allS (Or.inl (List.mem_of_getElem? (i := 0) rfl)) all0)), f122, (by rw [own_drop3 he]; exact Or.inl ⟨rfl, rfl, (List.forall_mem_cons.mpr ⟨hc103, (List.forall_mem_cons.mpr ⟨hc110, (List.forall_mem_cons.mpr ⟨hc117, (fun _ h => nomatch h)⟩)⟩)⟩)⟩)⟩
theorem ef_cu2 (mi : MethodId) (t : Addr) (r0 : Addr) (off : Nat) : entryFrame mi #[(.ref t), (.int (Int32.ofNat off)), (.ref r0), (.int 0), (.int 2)] 7 = mkF mi 0 #[.val (.ref t), .val (.int (Int32.ofNat off)), .val (.ref r0), .val (.int 0), .val (.int 2), .unset, .unset] [] := rfl
def Q_cu2 (Z : State) (t r0 : Addr) (kt kr : ClassId) (cs : List Int32) (off : Nat) (fm : Value) (hE : Heap) (n0 : Nat) (vv : Option Value) (hh : Heap) (LL : List Loc) : Prop := ∃ r : Int32, ∃ vs : List Value, (vv = some (.int r)) ∧ (Fr n0 LL) ∧ (Keep hE hh [r0]) ∧ (Arv Z hh r0 kr .byte (2 : Int32) vs (.int 0)) ∧ (CpR (cs.drop off) r vs)
theorem rm_cu2 (hw : HW a0 Z) (ws : List Cond) (t r0 : Addr) (kt kr : ClassId) (cs : List Int32) (off : Nat) (fm : Value) (hE : Heap) (n0 : Nat) (O : Old Z n0 hE) (P0_ : Arv Z hE t kt .byte (Int32.ofNat (2 * cs.length)) (StrChars.Road.wideBytes cs) (.int 0)) (P1_ : Arv Z hE r0 kr .byte (2 : Int32) [(.int 0), (.int 0)] (.int 0)) (D0_ : Sta Z Z.heap c1_ c6_ "Z" (.int 1)) (D1_ : Sta Z Z.heap c1_ c9_ "I" (.int 0)) (D2_ : Sta Z Z.heap c1_ c10_ "I" (.int 8)) (D3_ : Sta Z Z.heap c3_ c7_ c4_ fm) (g_r0 : n0 ≤ r0) (ne_t_r0 : t ≠ r0) (he : off + 2 = cs.length) (h4 : cs.length ≤ 4) (hbd : ∀ c ∈ cs, ¬ c < 0 ∧ ¬ (65535 : Int32) < c) (hfm : fm.isRef = true) :
    MF la Z hE mn35 jc29 7 (some .int) ws (rr 3 0 0 43) #[(.ref t), (.int (Int32.ofNat off)), (.ref r0), (.int 0), (.int 2)] (Q_cu2 Z t r0 kt kr cs off fm hE n0) := by
  refine MetFree.of_bodySF (plainFor_of_name pn_java_lang_StringUTF16) hisR ?_
  intro pg ev sb mi gs below me cd s₁ Bd hml0 hPt hKt
  obtain ⟨rfl, hZ, hh⟩ := hPt
  have hx := Bd.exec
  have hby := Bd.bytes
  have hml : cd.maxLocals = 7 := hml0
  have hown : sb.vm.findClass c1_ = some mi.cls := findClass_of_methodNamed Bd.named
  have X0 : Stand pg la ev (rr 3 0 0 43) sb mi #[(.ref t), (.int (Int32.ofNat off)), (.ref r0), (.int 0), (.int 2)] below me cd s₁ [] 0 0 := Stand.of_body Bd
  have eE : s₁.heap = hE := by rw [← hh, Bd.state]; rfl
  have N0 := Fr.nil n0
  have pre0 : ∀ tt, SP pg ev below (s₁.setTop (mkF mi 0 #[.val (.ref t), .val (.int (Int32.ofNat off)), .val (.ref r0), .val (.int 0), .val (.int 2), .unset, .unset] [])) tt → SP pg ev below (s₁.setTop (entryFrame mi #[(.ref t), (.int (Int32.ofNat off)), (.ref r0), (.int 0), (.int 2)] 7)) tt := fun tt kk => castTop (ef_cu2 mi t r0 off) kk
  obtain ⟨v101, _, ⟨T101, L101, k101, n101⟩, -, X101, ⟨Lc101, hQ101, l101, y101, z101⟩, st101⟩ := Jvm.LawKit.callS X0 hx (y := mn13) hown (mvT hZ (wd199 hw)) (mvT hZ (wd200 hw)) (mvT hZ (wd83 hw)) (mvT hZ (wd201 hw)) (by decide) (backOf (W := 0) (rm_ubo la Z a0 hw [] (Int32.ofNat off) (2 : Int32) t kt cs fm hE n0 O P0_ D3_ (own_or_nn (own_or_nn (own_nn8 (by omega)) (own_nn8 (by omega))) (by decide) : ¬ ((((Int32.ofNat cs.length) ||| (Int32.ofNat off)) ||| (2 : Int32)) < (0 : Int32))) (by rw [own_sub32 (by omega)]; exact fun q => absurd ((own_lt8 (a := cs.length - off) (b := 2) (by omega) (by omega)).mp q) (by omega) : ¬ (((Int32.ofNat cs.length) - (Int32.ofNat off)) < (2 : Int32))) (by omega : cs.length ≤ 4000) (hfm : fm.isRef = true)) hZ (wd201 hw) (wd83 hw) (by decide) (by decide)) (g := (mkF mi 4 #[.val (.ref t), .val (.int (Int32.ofNat off)), .val (.ref r0), .val (.int 0), .val (.int 2), .unset, .unset] [(.ref t), (.int 2), (.int (Int32.ofNat off))])) rfl (by rw [hml]; rfl) (argsL := [(.int (Int32.ofNat off)), (.int 2), (.ref t)]) (rest := []) (lenOf pd_16 rfl) rfl (Nat.le_of_ble_eq_true rfl) (hb hby dj29_4) (fun _ _ => ⟨rfl, eE, (by decide : 0 + 0 ≤ _), (by decide : 0 + 0 ≤ _)⟩)
  dsimp only [Pt.U, Pt.locs, Pt.cells, Pt.slots] at X101 l101 y101 z101 st101 hQ101
  subst l101 y101 z101
  obtain ⟨rfl, Nq101, ek101⟩ := hQ101
  have N101 := Fr.app N0 Nq101
  obtain ⟨v102, _, ⟨T102, L102, k102, n102⟩, -, X102, ⟨Lc102, hQ102, l102, y102, z102⟩, st102⟩ := Jvm.LawKit.callS X101 hx (y := mn0) hown (mvT hZ (wd166 hw)) (mvT hZ (wd167 hw)) (mvT hZ (wd83 hw)) (mvT hZ (wd168 hw)) (by decide) (backOf (W := 0) (rm_gch la Z a0 hw [] t (Int32.ofNat off) kt cs off hE n0 O P0_ D0_ D1_ D2_ (by first | rfl | simp only [show (1 : Int32) = Int32.ofNat 1 from rfl, own_add32] : (Int32.ofNat off) = Int32.ofNat off) (by omega : off < cs.length) (by omega : cs.length ≤ 4000) (hbd : ∀ c ∈ cs, ¬ c < 0 ∧ ¬ (65535 : Int32) < c)) hZ (wd168 hw) (wd83 hw) (by decide) (by decide)) (g := (mkF mi 19 #[.val (.ref t), .val (.int (Int32.ofNat off)), .val (.ref r0), .val (.int 0), .val (.int 2), .val (.int 0), .unset] [(.int (Int32.ofNat off)), (.ref t)])) rfl (by rw [hml]; rfl) (argsL := [(.ref t), (.int (Int32.ofNat off))]) (rest := []) (lenOf pd_10 rfl) rfl (Nat.le_of_ble_eq_true rfl) (hb hby dj29_19) (fun _ _ => ⟨rfl, ek101, (by decide : 0 + 0 ≤ _), (by decide : 0 + 0 ≤ _)⟩)
  dsimp only [Pt.U, Pt.locs, Pt.cells, Pt.slots] at X102 l102 y102 z102 st102 hQ102
  subst l102 y102 z102
  obtain ⟨rfl, Nq102, ek102⟩ := hQ102
  have N102 := Fr.app N101 Nq102
  have pre104 : ∀ tt, SP pg ev below (T102.setTop (mkF mi 29 #[.val (.ref t), .val (.int (Int32.ofNat off)), .val (.ref r0), .val (.int 0), .val (.int 2), .val (.int 0), .val (.int (cs.getD off 0))] [(.int 255), (.int (cs.getD off 0))])) tt → SP pg ev below (s₁.setTop (entryFrame mi #[(.ref t), (.int (Int32.ofNat off)), (.ref r0), (.int 0), (.int 2)] 7)) tt := fun tt kk => pre0 _ (by
    show SP pg ev below (s₁.setTop (mkF mi 0 #[.val (.ref t), .val (.int (Int32.ofNat off)), .val (.ref r0), .val (.int 0), .val (.int 2), .unset, .unset] [])) _
    refine XS.iloadN X0.here hx rfl (hb hby dj29_0) rfl ?_
    refine XS.iload X0.here hx rfl (hb hby dj29_1) rfl ?_
    refine XS.aloadN X0.here hx rfl (hb hby dj29_3) rfl rfl ?_
    refine st101 _ ?_
    refine XS.iconst X101.here hx rfl (hb hby dj29_7) ?_
    refine XS.istore X101.here hx rfl (hb hby dj29_8) rfl (l' := #[.val (.ref t), .val (.int (Int32.ofNat off)), .val (.ref r0), .val (.int 0), .val (.int 2), .val (.int 0), .unset]) rfl ?_
    refine XS.iload X101.here hx rfl (hb hby dj29_10) rfl ?_
    refine XS.iload X101.here hx rfl (hb hby dj29_12) rfl ?_
    refine XS.icmpNo X101.here hx rfl (hb hby dj29_14) rfl (tlt (by decide : (0 : Int32) < (2 : Int32))).2.1 ?_
    refine XS.aloadN X101.here hx rfl (hb hby dj29_17) rfl rfl ?_
    refine XS.iloadN X101.here hx rfl (hb hby dj29_18) rfl ?_
    refine st102 _ ?_
    refine XS.istore X102.here hx rfl (hb hby dj29_22) rfl (l' := #[.val (.ref t), .val (.int (Int32.ofNat off)), .val (.ref r0), .val (.int 0), .val (.int 2), .val (.int 0), .val (.int (cs.getD off 0))]) rfl ?_
    refine XS.iload X102.here hx rfl (hb hby dj29_24) rfl ?_
    refine XS.sipush X102.here hx rfl (hb hby dj29_26) ?_
    exact kk)
  by_cases hc103 : (255 : Int32) < (cs.getD off 0)
  · obtain ⟨fs, hr, hrun, hended, hW, hsame⟩ := X102.leave (v := some (.int 0)) (fun hq => by rw [Bd.returns] at hq; cases hq)
    refine ⟨_, _, pre104 _ ?_, hrun, hended, _, _, rfl, ?_, ⟨_, rfl⟩, hW, hsame.mono (by decide) (by decide)⟩
    · show SP pg ev below (T102.setTop (mkF mi 29 #[.val (.ref t), .val (.int (Int32.ofNat off)), .val (.ref r0), .val (.int 0), .val (.int 2), .val (.int 0), .val (.int (cs.getD off 0))] [(.int 255), (.int (cs.getD off 0))])) _
      refine XS.icmpNo X102.here hx rfl (hb hby dj29_29) rfl (tlt hc103).2.2.2 ?_
      refine XS.iload X102.here hx rfl (hb hby dj29_32) rfl ?_
      show SP pg ev below (T102.setTop (mkF mi 34 #[.val (.ref t), .val (.int (Int32.ofNat off)), .val (.ref r0), .val (.int 0), .val (.int 2), .val (.int 0), .val (.int (cs.getD off 0))] [(.int 0)])) _
      exact retI X102 hx Bd.returns (hb hby dj29_34) hr
    · show Q_cu2 Z t r0 kt kr cs off fm hE n0 _ T102.heap _
      rw [ek102]
      exact ⟨(0 : Int32), [(.int 0), (.int 0)], rfl, N102, (Keep.refl hE [r0]), P1_, (by rw [own_drop2 he]; exact Or.inr ⟨0, Nat.le_of_ble_eq_true rfl, rfl, hc103⟩)⟩
  · obtain ⟨cl105, Ar105, qq105, Sz105, Nn105, Hh105, Gg105⟩ := id P1_
    have hin105 : ¬ ((0 : Int32) < 0 ∨ cl105.slots.size ≤ ((0 : Int32)).toNatClampNeg) := inb_of Sz105 ⟨by decide, by decide⟩
    obtain ⟨T105, h105, X105, e105, W105, st105⟩ := stB X102 hx hZ ek102 Ar105 (j := (0 : Int32)) hin105 (g := (mkF mi 40 #[.val (.ref t), .val (.int (Int32.ofNat off)), .val (.ref r0), .val (.int 0), .val (.int 2), .val (.int 0), .val (.int (cs.getD off 0))] [(.int ((cs.getD off 0).toInt8.toInt32)), (.int 0), (.ref r0)])) rfl rfl (hb hby dj29_40)
    have N105 := Fr.snoc X105 N102 g_r0
    have f106 : Arv Z h105 r0 kr .byte (2 : Int32) [(.int (((cs.getD off 0).toInt8.toInt32)).toInt8.toInt32), (.int 0)] (.int 0) := Arv.set Ar105 qq105 Sz105 Nn105 Hh105 Gg105 (fits_nar_byte _) W105 0 rfl (Nat.le_of_ble_eq_true rfl)
    have O107 : Old Z n0 h105 := (O.keep (Keep.of_wr W105) (allS g_r0 all0))
    have f108 : Arv Z h105 t kt .byte (Int32.ofNat (2 * cs.length)) (StrChars.Road.wideBytes cs) (.int 0) := (P0_.keep (Keep.of_wr W105) (ninS ne_t_r0 nin0))
    obtain ⟨v109, _, ⟨T109, L109, k109, n109⟩, -, X109, ⟨Lc109, hQ109, l109, y109, z109⟩, st109⟩ := Jvm.LawKit.callS X105 hx (y := mn0) hown (mvT hZ (wd166 hw)) (mvT hZ (wd167 hw)) (mvT hZ (wd83 hw)) (mvT hZ (wd168 hw)) (by decide) (backOf (W := 0) (rm_gch la Z a0 hw [] t ((Int32.ofNat off) + (1 : Int32)) kt cs (off + 1) h105 n0 O107 f108 D0_ D1_ D2_ (by first | rfl | simp only [show (1 : Int32) = Int32.ofNat 1 from rfl, own_add32] : ((Int32.ofNat off) + (1 : Int32)) = Int32.ofNat (off + 1)) (by omega : (off + 1) < cs.length) (by omega : cs.length ≤ 4000) (hbd : ∀ c ∈ cs, ¬ c < 0 ∧ ¬ (65535 : Int32) < c)) hZ (wd168 hw) (wd83 hw) (by decide) (by decide)) (g := (mkF mi 19 #[.val (.ref t), .val (.int ((Int32.ofNat off) + (1 : Int32))), .val (.ref r0), .val (.int 1), .val (.int 2), .val (.int 1), .val (.int (cs.getD off 0))] [(.int ((Int32.ofNat off) + (1 : Int32))), (.ref t)])) rfl (by rw [hml]; rfl) (argsL := [(.ref t), (.int ((Int32.ofNat off) + (1 : Int32)))]) (rest := []) (lenOf pd_10 rfl) rfl (Nat.le_of_ble_eq_true rfl) (hb hby dj29_19) (fun _ _ => ⟨rfl, e105, (by decide : 0 + 0 ≤ _), (by decide : 0 + 0 ≤ _)⟩)
    dsimp only [Pt.U, Pt.locs, Pt.cells, Pt.slots] at X109 l109 y109 z109 st109 hQ109
    subst l109 y109 z109
    obtain ⟨rfl, Nq109, ek109⟩ := hQ109
    have N109 := Fr.app N105 Nq109
    have pre111 : ∀ tt, SP pg ev below (T109.setTop (mkF mi 29 #[.val (.ref t), .val (.int ((Int32.ofNat off) + (1 : Int32))), .val (.ref r0), .val (.int 1), .val (.int 2), .val (.int 1), .val (.int (cs.getD (off + 1) 0))] [(.int 255), (.int (cs.getD (off + 1) 0))])) tt → SP pg ev below (s₁.setTop (entryFrame mi #[(.ref t), (.int (Int32.ofNat off)), (.ref r0), (.int 0), (.int 2)] 7)) tt := fun tt kk => pre104 _ (by
      show SP pg ev below (T102.setTop (mkF mi 29 #[.val (.ref t), .val (.int (Int32.ofNat off)), .val (.ref r0), .val (.int 0), .val (.int 2), .val (.int 0), .val (.int (cs.getD off 0))] [(.int 255), (.int (cs.getD off 0))])) _
      refine XS.icmpYes X102.here hx rfl (pc0 := 29) (pc' := 35) rfl (hb hby dj29_29) rfl (flt hc103).2.2.2 (by decide) (by decide) ?_
      refine XS.aloadN X102.here hx rfl (hb hby dj29_35) rfl rfl ?_
      refine XS.iloadN X102.here hx rfl (hb hby dj29_36) rfl ?_
      refine XS.iload X102.here hx rfl (hb hby dj29_37) rfl ?_
      refine XS.i2b X102.here hx rfl (hb hby dj29_39) rfl ?_
      refine st105 _ ?_
      refine XS.iinc X105.here hx rfl (hb hby dj29_41) rfl (l' := #[.val (.ref t), .val (.int ((Int32.ofNat off) + (1 : Int32))), .val (.ref r0), .val (.int 0), .val (.int 2), .val (.int 0), .val (.int (cs.getD off 0))]) rfl ?_
      refine XS.iinc X105.here hx rfl (hb hby dj29_44) rfl (l' := #[.val (.ref t), .val (.int ((Int32.ofNat off) + (1 : Int32))), .val (.ref r0), .val (.int 1), .val (.int 2), .val (.int 0), .val (.int (cs.getD off 0))]) rfl ?_
      refine XS.iinc X105.here hx rfl (hb hby dj29_47) rfl (l' := #[.val (.ref t), .val (.int ((Int32.ofNat off) + (1 : Int32))), .val (.ref r0), .val (.int 1), .val (.int 2), .val (.int 1), .val (.int (cs.getD off 0))]) rfl ?_
      refine XS.goto X105.here hx rfl (pc0 := 50) (pc' := 10) rfl (hb hby dj29_50) (by decide) (by decide) ?_
      refine XS.iload X105.here hx rfl (hb hby dj29_10) rfl ?_
      refine XS.iload X105.here hx rfl (hb hby dj29_12) rfl ?_
      refine XS.icmpNo X105.here hx rfl (hb hby dj29_14) rfl (tlt (by decide : (1 : Int32) < (2 : Int32))).2.1 ?_
      refine XS.aloadN X105.here hx rfl (hb hby dj29_17) rfl rfl ?_
      refine XS.iloadN X105.here hx rfl (hb hby dj29_18) rfl ?_
      refine st109 _ ?_
      refine XS.istore X109.here hx rfl (hb hby dj29_22) rfl (l' := #[.val (.ref t), .val (.int ((Int32.ofNat off) + (1 : Int32))), .val (.ref r0), .val (.int 1), .val (.int 2), .val (.int 1), .val (.int (cs.getD (off + 1) 0))]) rfl ?_
      refine XS.iload X109.here hx rfl (hb hby dj29_24) rfl ?_
      refine XS.sipush X109.here hx rfl (hb hby dj29_26) ?_
      exact kk)
    by_cases hc110 : (255 : Int32) < (cs.getD (off + 1) 0)
    · obtain ⟨fs, hr, hrun, hended, hW, hsame⟩ := X109.leave (v := some (.int 1)) (fun hq => by rw [Bd.returns] at hq; cases hq)
      refine ⟨_, _, pre111 _ ?_, hrun, hended, _, _, rfl, ?_, ⟨_, rfl⟩, hW, hsame.mono (by decide) (by decide)⟩
      · show SP pg ev below (T109.setTop (mkF mi 29 #[.val (.ref t), .val (.int ((Int32.ofNat off) + (1 : Int32))), .val (.ref r0), .val (.int 1), .val (.int 2), .val (.int 1), .val (.int (cs.getD (off + 1) 0))] [(.int 255), (.int (cs.getD (off + 1) 0))])) _
        refine XS.icmpNo X109.here hx rfl (hb hby dj29_29) rfl (tlt hc110).2.2.2 ?_
        refine XS.iload X109.here hx rfl (hb hby dj29_32) rfl ?_
        show SP pg ev below (T109.setTop (mkF mi 34 #[.val (.ref t), .val (.int ((Int32.ofNat off) + (1 : Int32))), .val (.ref r0), .val (.int 1), .val (.int 2), .val (.int 1), .val (.int (cs.getD (off + 1) 0))] [(.int 1)])) _
        exact retI X109 hx Bd.returns (hb hby dj29_34) hr
      · show Q_cu2 Z t r0 kt kr cs off fm hE n0 _ T109.heap _
        rw [ek109]
        exact ⟨(1 : Int32), [(.int (((cs.getD off 0).toInt8.toInt32)).toInt8.toInt32), (.int 0)], rfl, N109, ((Keep.refl hE [r0]).trans (Keep.of_wr W105) (allS (Or.inl (List.mem_of_getElem? (i := 0) rfl)) all0)), f106, (by rw [own_drop2 he]; exact Or.inr ⟨1, Nat.le_of_ble_eq_true rfl, rfl, hc110⟩)⟩
    · obtain ⟨cl112, Ar112, qq112, Sz112, Nn112, Hh112, Gg112⟩ := id f106
      have hin112 : ¬ ((1 : Int32) < 0 ∨ cl112.slots.size ≤ ((1 : Int32)).toNatClampNeg) := inb_of Sz112 ⟨by decide, by decide⟩
      obtain ⟨T112, h112, X112, e112, W112, st112⟩ := stB X109 hx hZ ek109 Ar112 (j := (1 : Int32)) hin112 (g := (mkF mi 40 #[.val (.ref t), .val (.int ((Int32.ofNat off) + (1 : Int32))), .val (.ref r0), .val (.int 1), .val (.int 2), .val (.int 1), .val (.int (cs.getD (off + 1) 0))] [(.int ((cs.getD (off + 1) 0).toInt8.toInt32)), (.int 1), (.ref r0)])) rfl rfl (hb hby dj29_40)
      have N112 := Fr.snoc X112 N109 g_r0
      have f113 : Arv Z h112 r0 kr .byte (2 : Int32) [(.int (((cs.getD off 0).toInt8.toInt32)).toInt8.toInt32), (.int (((cs.getD (off + 1) 0).toInt8.toInt32)).toInt8.toInt32)] (.int 0) := Arv.set Ar112 qq112 Sz112 Nn112 Hh112 Gg112 (fits_nar_byte _) W112 1 rfl (Nat.le_of_ble_eq_true rfl)
      have f114 : Arv Z h112 r0 kr .byte (2 : Int32) [(.int (cs.getD off 0).toInt8.toInt32), (.int (cs.getD (off + 1) 0).toInt8.toInt32)] (.int 0) := by simpa only [own_i8] using f113
      have f115 : Arv Z h112 r0 kr .byte (2 : Int32) [(.int (StrChars.lo8 (cs.getD off 0))), (.int (StrChars.lo8 (cs.getD (off + 1) 0)))] (.int 0) := f114
      obtain ⟨fs, hr, hrun, hended, hW, hsame⟩ := X112.leave (v := some (.int 2)) (fun hq => by rw [Bd.returns] at hq; cases hq)
      refine ⟨_, _, pre111 _ ?_, hrun, hended, _, _, rfl, ?_, ⟨_, rfl⟩, hW, hsame.mono (by decide) (by decide)⟩
      · show SP pg ev below (T109.setTop (mkF mi 29 #[.val (.ref t), .val (.int ((Int32.ofNat off) + (1 : Int32))), .val (.ref r0), .val (.int 1), .val (.int 2), .val (.int 1), .val (.int (cs.getD (off + 1) 0))] [(.int 255), (.int (cs.getD (off + 1) 0))])) _
        refine XS.icmpYes X109.here hx rfl (pc0 := 29) (pc' := 35) rfl (hb hby dj29_29) rfl (flt hc110).2.2.2 (by decide) (by decide) ?_
        refine XS.aloadN X109.here hx rfl (hb hby dj29_35) rfl rfl ?_
        refine XS.iloadN X109.here hx rfl (hb hby dj29_36) rfl ?_
        refine XS.iload X109.here hx rfl (hb hby dj29_37) rfl ?_
        refine XS.i2b X109.here hx rfl (hb hby dj29_39) rfl ?_
        refine st112 _ ?_
        refine XS.iinc X112.here hx rfl (hb hby dj29_41) rfl (l' := #[.val (.ref t), .val (.int (((Int32.ofNat off) + (1 : Int32)) + (1 : Int32))), .val (.ref r0), .val (.int 1), .val (.int 2), .val (.int 1), .val (.int (cs.getD (off + 1) 0))]) rfl ?_
        refine XS.iinc X112.here hx rfl (hb hby dj29_44) rfl (l' := #[.val (.ref t), .val (.int (((Int32.ofNat off) + (1 : Int32)) + (1 : Int32))), .val (.ref r0), .val (.int 2), .val (.int 2), .val (.int 1), .val (.int (cs.getD (off + 1) 0))]) rfl ?_
        refine XS.iinc X112.here hx rfl (hb hby dj29_47) rfl (l' := #[.val (.ref t), .val (.int (((Int32.ofNat off) + (1 : Int32)) + (1 : Int32))), .val (.ref r0), .val (.int 2), .val (.int 2), .val (.int 2), .val (.int (cs.getD (off + 1) 0))]) rfl ?_
        refine XS.goto X112.here hx rfl (pc0 := 50) (pc' := 10) rfl (hb hby dj29_50) (by decide) (by decide) ?_
        refine XS.iload X112.here hx rfl (hb hby dj29_10) rfl ?_
        refine XS.iload X112.here hx rfl (hb hby dj29_12) rfl ?_
        refine XS.icmpYes X112.here hx rfl (pc0 := 14) (pc' := 53) rfl (hb hby dj29_14) rfl (flt (fun q => absurd q (by simp [Int32.lt_irrefl]) : ¬ ((2 : Int32) < (2 : Int32)))).2.1 (by decide) (by decide) ?_
        refine XS.iload X112.here hx rfl (hb hby dj29_53) rfl ?_
        show SP pg ev below (T112.setTop (mkF mi 55 #[.val (.ref t), .val (.int (((Int32.ofNat off) + (1 : Int32)) + (1 : Int32))), .val (.ref r0), .val (.int 2), .val (.int 2), .val (.int 2), .val (.int (cs.getD (off + 1) 0))] [(.int 2)])) _
        exact retI X112 hx Bd.returns (hb hby dj29_55) hr
      · show Q_cu2 Z t r0 kt kr cs off fm hE n0 _ T112.heap _
        rw [e112]
        exact ⟨(2 : Int32), [(.int (StrChars.lo8 (cs.getD off 0))), (.int (StrChars.lo8 (cs.getD (off + 1) 0)))], rfl, N112, (((Keep.refl hE [r0]).trans (Keep.of_wr W105) (allS (Or.inl (List.mem_of_getElem? (i := 0) rfl)) all0)).trans (Keep.of_wr W112) (allS (Or.inl (List.mem_of_getElem? (i := 0) rfl)) all0)), f115, (by rw [own_drop2 he]; exact Or.inl ⟨rfl, rfl, (List.forall_mem_cons.mpr ⟨hc103, (List.forall_mem_cons.mpr ⟨hc110, (fun _ h => nomatch h)⟩)⟩)⟩)⟩
theorem ef_cu1 (mi : MethodId) (t : Addr) (r0 : Addr) (off : Nat) : entryFrame mi #[(.ref t), (.int (Int32.ofNat off)), (.ref r0), (.int 0), (.int 1)] 7 = mkF mi 0 #[.val (.ref t), .val (.int (Int32.ofNat off)), .val (.ref r0), .val (.int 0), .val (.int 1), .unset, .unset] [] := rfl
def Q_cu1 (Z : State) (t r0 : Addr) (kt kr : ClassId) (cs : List Int32) (off : Nat) (fm : Value) (hE : Heap) (n0 : Nat) (vv : Option Value) (hh : Heap) (LL : List Loc) : Prop := ∃ r : Int32, ∃ vs : List Value, (vv = some (.int r)) ∧ (Fr n0 LL) ∧ (Keep hE hh [r0]) ∧ (Arv Z hh r0 kr .byte (1 : Int32) vs (.int 0)) ∧ (CpR (cs.drop off) r vs)
theorem rm_cu1 (hw : HW a0 Z) (ws : List Cond) (t r0 : Addr) (kt kr : ClassId) (cs : List Int32) (off : Nat) (fm : Value) (hE : Heap) (n0 : Nat) (O : Old Z n0 hE) (P0_ : Arv Z hE t kt .byte (Int32.ofNat (2 * cs.length)) (StrChars.Road.wideBytes cs) (.int 0)) (P1_ : Arv Z hE r0 kr .byte (1 : Int32) [(.int 0)] (.int 0)) (D0_ : Sta Z Z.heap c1_ c6_ "Z" (.int 1)) (D1_ : Sta Z Z.heap c1_ c9_ "I" (.int 0)) (D2_ : Sta Z Z.heap c1_ c10_ "I" (.int 8)) (D3_ : Sta Z Z.heap c3_ c7_ c4_ fm) (g_r0 : n0 ≤ r0) (ne_t_r0 : t ≠ r0) (he : off + 1 = cs.length) (h4 : cs.length ≤ 4) (hbd : ∀ c ∈ cs, ¬ c < 0 ∧ ¬ (65535 : Int32) < c) (hfm : fm.isRef = true) :
    MF la Z hE mn35 jc29 7 (some .int) ws (rr 3 0 0 43) #[(.ref t), (.int (Int32.ofNat off)), (.ref r0), (.int 0), (.int 1)] (Q_cu1 Z t r0 kt kr cs off fm hE n0) := by
  refine MetFree.of_bodySF (plainFor_of_name pn_java_lang_StringUTF16) hisR ?_
  intro pg ev sb mi gs below me cd s₁ Bd hml0 hPt hKt
  obtain ⟨rfl, hZ, hh⟩ := hPt
  have hx := Bd.exec
  have hby := Bd.bytes
  have hml : cd.maxLocals = 7 := hml0
  have hown : sb.vm.findClass c1_ = some mi.cls := findClass_of_methodNamed Bd.named
  have X0 : Stand pg la ev (rr 3 0 0 43) sb mi #[(.ref t), (.int (Int32.ofNat off)), (.ref r0), (.int 0), (.int 1)] below me cd s₁ [] 0 0 := Stand.of_body Bd
  have eE : s₁.heap = hE := by rw [← hh, Bd.state]; rfl
  have N0 := Fr.nil n0
  have pre0 : ∀ tt, SP pg ev below (s₁.setTop (mkF mi 0 #[.val (.ref t), .val (.int (Int32.ofNat off)), .val (.ref r0), .val (.int 0), .val (.int 1), .unset, .unset] [])) tt → SP pg ev below (s₁.setTop (entryFrame mi #[(.ref t), (.int (Int32.ofNat off)), (.ref r0), (.int 0), (.int 1)] 7)) tt := fun tt kk => castTop (ef_cu1 mi t r0 off) kk
  obtain ⟨v101, _, ⟨T101, L101, k101, n101⟩, -, X101, ⟨Lc101, hQ101, l101, y101, z101⟩, st101⟩ := Jvm.LawKit.callS X0 hx (y := mn13) hown (mvT hZ (wd199 hw)) (mvT hZ (wd200 hw)) (mvT hZ (wd83 hw)) (mvT hZ (wd201 hw)) (by decide) (backOf (W := 0) (rm_ubo la Z a0 hw [] (Int32.ofNat off) (1 : Int32) t kt cs fm hE n0 O P0_ D3_ (own_or_nn (own_or_nn (own_nn8 (by omega)) (own_nn8 (by omega))) (by decide) : ¬ ((((Int32.ofNat cs.length) ||| (Int32.ofNat off)) ||| (1 : Int32)) < (0 : Int32))) (by rw [own_sub32 (by omega)]; exact fun q => absurd ((own_lt8 (a := cs.length - off) (b := 1) (by omega) (by omega)).mp q) (by omega) : ¬ (((Int32.ofNat cs.length) - (Int32.ofNat off)) < (1 : Int32))) (by omega : cs.length ≤ 4000) (hfm : fm.isRef = true)) hZ (wd201 hw) (wd83 hw) (by decide) (by decide)) (g := (mkF mi 4 #[.val (.ref t), .val (.int (Int32.ofNat off)), .val (.ref r0), .val (.int 0), .val (.int 1), .unset, .unset] [(.ref t), (.int 1), (.int (Int32.ofNat off))])) rfl (by rw [hml]; rfl) (argsL := [(.int (Int32.ofNat off)), (.int 1), (.ref t)]) (rest := []) (lenOf pd_16 rfl) rfl (Nat.le_of_ble_eq_true rfl) (hb hby dj29_4) (fun _ _ => ⟨rfl, eE, (by decide : 0 + 0 ≤ _), (by decide : 0 + 0 ≤ _)⟩)
  dsimp only [Pt.U, Pt.locs, Pt.cells, Pt.slots] at X101 l101 y101 z101 st101 hQ101
  subst l101 y101 z101
  obtain ⟨rfl, Nq101, ek101⟩ := hQ101
  have N101 := Fr.app N0 Nq101
  obtain ⟨v102, _, ⟨T102, L102, k102, n102⟩, -, X102, ⟨Lc102, hQ102, l102, y102, z102⟩, st102⟩ := Jvm.LawKit.callS X101 hx (y := mn0) hown (mvT hZ (wd166 hw)) (mvT hZ (wd167 hw)) (mvT hZ (wd83 hw)) (mvT hZ (wd168 hw)) (by decide) (backOf (W := 0) (rm_gch la Z a0 hw [] t (Int32.ofNat off) kt cs off hE n0 O P0_ D0_ D1_ D2_ (by first | rfl | simp only [show (1 : Int32) = Int32.ofNat 1 from rfl, own_add32] : (Int32.ofNat off) = Int32.ofNat off) (by omega : off < cs.length) (by omega : cs.length ≤ 4000) (hbd : ∀ c ∈ cs, ¬ c < 0 ∧ ¬ (65535 : Int32) < c)) hZ (wd168 hw) (wd83 hw) (by decide) (by decide)) (g := (mkF mi 19 #[.val (.ref t), .val (.int (Int32.ofNat off)), .val (.ref r0), .val (.int 0), .val (.int 1), .val (.int 0), .unset] [(.int (Int32.ofNat off)), (.ref t)])) rfl (by rw [hml]; rfl) (argsL := [(.ref t), (.int (Int32.ofNat off))]) (rest := []) (lenOf pd_10 rfl) rfl (Nat.le_of_ble_eq_true rfl) (hb hby dj29_19) (fun _ _ => ⟨rfl, ek101, (by decide : 0 + 0 ≤ _), (by decide : 0 + 0 ≤ _)⟩)
  dsimp only [Pt.U, Pt.locs, Pt.cells, Pt.slots] at X102 l102 y102 z102 st102 hQ102
  subst l102 y102 z102
  obtain ⟨rfl, Nq102, ek102⟩ := hQ102
  have N102 := Fr.app N101 Nq102
  have pre104 : ∀ tt, SP pg ev below (T102.setTop (mkF mi 29 #[.val (.ref t), .val (.int (Int32.ofNat off)), .val (.ref r0), .val (.int 0), .val (.int 1), .val (.int 0), .val (.int (cs.getD off 0))] [(.int 255), (.int (cs.getD off 0))])) tt → SP pg ev below (s₁.setTop (entryFrame mi #[(.ref t), (.int (Int32.ofNat off)), (.ref r0), (.int 0), (.int 1)] 7)) tt := fun tt kk => pre0 _ (by
    show SP pg ev below (s₁.setTop (mkF mi 0 #[.val (.ref t), .val (.int (Int32.ofNat off)), .val (.ref r0), .val (.int 0), .val (.int 1), .unset, .unset] [])) _
    refine XS.iloadN X0.here hx rfl (hb hby dj29_0) rfl ?_
    refine XS.iload X0.here hx rfl (hb hby dj29_1) rfl ?_
    refine XS.aloadN X0.here hx rfl (hb hby dj29_3) rfl rfl ?_
    refine st101 _ ?_
    refine XS.iconst X101.here hx rfl (hb hby dj29_7) ?_
    refine XS.istore X101.here hx rfl (hb hby dj29_8) rfl (l' := #[.val (.ref t), .val (.int (Int32.ofNat off)), .val (.ref r0), .val (.int 0), .val (.int 1), .val (.int 0), .unset]) rfl ?_
    refine XS.iload X101.here hx rfl (hb hby dj29_10) rfl ?_
    refine XS.iload X101.here hx rfl (hb hby dj29_12) rfl ?_
    refine XS.icmpNo X101.here hx rfl (hb hby dj29_14) rfl (tlt (by decide : (0 : Int32) < (1 : Int32))).2.1 ?_
    refine XS.aloadN X101.here hx rfl (hb hby dj29_17) rfl rfl ?_
    refine XS.iloadN X101.here hx rfl (hb hby dj29_18) rfl ?_
    refine st102 _ ?_
    refine XS.istore X102.here hx rfl (hb hby dj29_22) rfl (l' := #[.val (.ref t), .val (.int (Int32.ofNat off)), .val (.ref r0), .val (.int 0), .val (.int 1), .val (.int 0), .val (.int (cs.getD off 0))]) rfl ?_
    refine XS.iload X102.here hx rfl (hb hby dj29_24) rfl ?_
    refine XS.sipush X102.here hx rfl (hb hby dj29_26) ?_
    exact kk)
  by_cases hc103 : (255 : Int32) < (cs.getD off 0)
  · obtain ⟨fs, hr, hrun, hended, hW, hsame⟩ := X102.leave (v := some (.int 0)) (fun hq => by rw [Bd.returns] at hq; cases hq)
    refine ⟨_, _, pre104 _ ?_, hrun, hended, _, _, rfl, ?_, ⟨_, rfl⟩, hW, hsame.mono (by decide) (by decide)⟩
    · show SP pg ev below (T102.setTop (mkF mi 29 #[.val (.ref t), .val (.int (Int32.ofNat off)), .val (.ref r0), .val (.int 0), .val (.int 1), .val (.int 0), .val (.int (cs.getD off 0))] [(.int 255), (.int (cs.getD off 0))])) _
      refine XS.icmpNo X102.here hx rfl (hb hby dj29_29) rfl (tlt hc103).2.2.2 ?_
      refine XS.iload X102.here hx rfl (hb hby dj29_32) rfl ?_
      show SP pg ev below (T102.setTop (mkF mi 34 #[.val (.ref t), .val (.int (Int32.ofNat off)), .val (.ref r0), .val (.int 0), .val (.int 1), .val (.int 0), .val (.int (cs.getD off 0))] [(.int 0)])) _
      exact retI X102 hx Bd.returns (hb hby dj29_34) hr
    · show Q_cu1 Z t r0 kt kr cs off fm hE n0 _ T102.heap _
      rw [ek102]
      exact ⟨(0 : Int32), [(.int 0)], rfl, N102, (Keep.refl hE [r0]), P1_, (by rw [own_drop1 he]; exact Or.inr ⟨0, Nat.le_of_ble_eq_true rfl, rfl, hc103⟩)⟩
  · obtain ⟨cl105, Ar105, qq105, Sz105, Nn105, Hh105, Gg105⟩ := id P1_
    have hin105 : ¬ ((0 : Int32) < 0 ∨ cl105.slots.size ≤ ((0 : Int32)).toNatClampNeg) := inb_of Sz105 ⟨by decide, by decide⟩
    obtain ⟨T105, h105, X105, e105, W105, st105⟩ := stB X102 hx hZ ek102 Ar105 (j := (0 : Int32)) hin105 (g := (mkF mi 40 #[.val (.ref t), .val (.int (Int32.ofNat off)), .val (.ref r0), .val (.int 0), .val (.int 1), .val (.int 0), .val (.int (cs.getD off 0))] [(.int ((cs.getD off 0).toInt8.toInt32)), (.int 0), (.ref r0)])) rfl rfl (hb hby dj29_40)
    have N105 := Fr.snoc X105 N102 g_r0
    have f106 : Arv Z h105 r0 kr .byte (1 : Int32) [(.int (((cs.getD off 0).toInt8.toInt32)).toInt8.toInt32)] (.int 0) := Arv.set Ar105 qq105 Sz105 Nn105 Hh105 Gg105 (fits_nar_byte _) W105 0 rfl (Nat.le_of_ble_eq_true rfl)
    have f107 : Arv Z h105 r0 kr .byte (1 : Int32) [(.int (cs.getD off 0).toInt8.toInt32)] (.int 0) := by simpa only [own_i8] using f106
    have f108 : Arv Z h105 r0 kr .byte (1 : Int32) [(.int (StrChars.lo8 (cs.getD off 0)))] (.int 0) := f107
    obtain ⟨fs, hr, hrun, hended, hW, hsame⟩ := X105.leave (v := some (.int 1)) (fun hq => by rw [Bd.returns] at hq; cases hq)
    refine ⟨_, _, pre104 _ ?_, hrun, hended, _, _, rfl, ?_, ⟨_, rfl⟩, hW, hsame.mono (by decide) (by decide)⟩
    · show SP pg ev below (T102.setTop (mkF mi 29 #[.val (.ref t), .val (.int (Int32.ofNat off)), .val (.ref r0), .val (.int 0), .val (.int 1), .val (.int 0), .val (.int (cs.getD off 0))] [(.int 255), (.int (cs.getD off 0))])) _
      refine XS.icmpYes X102.here hx rfl (pc0 := 29) (pc' := 35) rfl (hb hby dj29_29) rfl (flt hc103).2.2.2 (by decide) (by decide) ?_
      refine XS.aloadN X102.here hx rfl (hb hby dj29_35) rfl rfl ?_
      refine XS.iloadN X102.here hx rfl (hb hby dj29_36) rfl ?_
      refine XS.iload X102.here hx rfl (hb hby dj29_37) rfl ?_
      refine XS.i2b X102.here hx rfl (hb hby dj29_39) rfl ?_
      refine st105 _ ?_
      refine XS.iinc X105.here hx rfl (hb hby dj29_41) rfl (l' := #[.val (.ref t), .val (.int ((Int32.ofNat off) + (1 : Int32))), .val (.ref r0), .val (.int 0), .val (.int 1), .val (.int 0), .val (.int (cs.getD off 0))]) rfl ?_
      refine XS.iinc X105.here hx rfl (hb hby dj29_44) rfl (l' := #[.val (.ref t), .val (.int ((Int32.ofNat off) + (1 : Int32))), .val (.ref r0), .val (.int 1), .val (.int 1), .val (.int 0), .val (.int (cs.getD off 0))]) rfl ?_
      refine XS.iinc X105.here hx rfl (hb hby dj29_47) rfl (l' := #[.val (.ref t), .val (.int ((Int32.ofNat off) + (1 : Int32))), .val (.ref r0), .val (.int 1), .val (.int 1), .val (.int 1), .val (.int (cs.getD off 0))]) rfl ?_
      refine XS.goto X105.here hx rfl (pc0 := 50) (pc' := 10) rfl (hb hby dj29_50) (by decide) (by decide) ?_
      refine XS.iload X105.here hx rfl (hb hby dj29_10) rfl ?_
      refine XS.iload X105.here hx rfl (hb hby dj29_12) rfl ?_
      refine XS.icmpYes X105.here hx rfl (pc0 := 14) (pc' := 53) rfl (hb hby dj29_14) rfl (flt (fun q => absurd q (by simp [Int32.lt_irrefl]) : ¬ ((1 : Int32) < (1 : Int32)))).2.1 (by decide) (by decide) ?_
      refine XS.iload X105.here hx rfl (hb hby dj29_53) rfl ?_
      show SP pg ev below (T105.setTop (mkF mi 55 #[.val (.ref t), .val (.int ((Int32.ofNat off) + (1 : Int32))), .val (.ref r0), .val (.int 1), .val (.int 1), .val (.int 1), .val (.int (cs.getD off 0))] [(.int 1)])) _
      exact retI X105 hx Bd.returns (hb hby dj29_55) hr
    · show Q_cu1 Z t r0 kt kr cs off fm hE n0 _ T105.heap _
      rw [e105]
      exact ⟨(1 : Int32), [(.int (StrChars.lo8 (cs.getD off 0)))], rfl, N105, ((Keep.refl hE [r0]).trans (Keep.of_wr W105) (allS (Or.inl (List.mem_of_getElem? (i := 0) rfl)) all0)), f108, (by rw [own_drop1 he]; exact Or.inl ⟨rfl, rfl, (List.forall_mem_cons.mpr ⟨hc103, (fun _ h => nomatch h)⟩)⟩)⟩
def Q_cuX (Z : State) (t r0 : Addr) (kt kr : ClassId) (cs : List Int32) (off m : Nat) (fm : Value) (hE : Heap) (n0 : Nat) (vv : Option Value) (hh : Heap) (LL : List Loc) : Prop := ∃ r : Int32, ∃ vs : List Value, (vv = some (.int r)) ∧ (Fr n0 LL) ∧ (Keep hE hh [r0]) ∧ (Arv Z hh r0 kr .byte (Int32.ofNat m) vs (.int 0)) ∧ (CpR (cs.drop off) r vs)
theorem rm_cuX (hw : HW a0 Z) (ws : List Cond) (t r0 : Addr) (kt kr : ClassId) (cs : List Int32) (off m : Nat) (fm : Value) (hE : Heap) (n0 : Nat) (O : Old Z n0 hE) (P0_ : Arv Z hE t kt .byte (Int32.ofNat (2 * cs.length)) (StrChars.Road.wideBytes cs) (.int 0)) (P1_ : Arv Z hE r0 kr .byte (Int32.ofNat m) ([] ++ List.replicate (m) (Value.int 0)) (.int 0)) (D0_ : Sta Z Z.heap c1_ c6_ "Z" (.int 1)) (D1_ : Sta Z Z.heap c1_ c9_ "I" (.int 0)) (D2_ : Sta Z Z.heap c1_ c10_ "I" (.int 8)) (D3_ : Sta Z Z.heap c3_ c7_ c4_ fm) (g_r0 : n0 ≤ r0) (ne_t_r0 : t ≠ r0) (ho : 0 < off) (hm0 : 0 < m) (he : off + m = cs.length) (h4 : cs.length ≤ 4) (hbd : ∀ c ∈ cs, ¬ c < 0 ∧ ¬ (65535 : Int32) < c) (hfm : fm.isRef = true) :
    MF la Z hE mn35 jc29 7 (some .int) ws (rr 3 0 0 43) #[(.ref t), (.int (Int32.ofNat off)), (.ref r0), (.int 0), (.int (Int32.ofNat m))] (Q_cuX Z t r0 kt kr cs off m fm hE n0) := by
  obtain rfl | rfl | rfl : m = 1 ∨ m = 2 ∨ m = 3 := by omega
  · exact rm_cu1 la Z a0 hw ws t r0 kt kr cs off fm hE n0 O P0_ P1_ D0_ D1_ D2_ D3_ g_r0 ne_t_r0 he h4 hbd hfm
  · exact rm_cu2 la Z a0 hw ws t r0 kt kr cs off fm hE n0 O P0_ P1_ D0_ D1_ D2_ D3_ g_r0 ne_t_r0 he h4 hbd hfm
  · exact rm_cu3 la Z a0 hw ws t r0 kt kr cs off fm hE n0 O P0_ P1_ D0_ D1_ D2_ D3_ g_r0 ne_t_r0 he h4 hbd hfm
theorem dj30_0 : decode jc30 0 = .ok (.iload_n 2, 1) := by decide +kernel
theorem dj30_1 : decode jc30 1 = .ok (.newarray .byte, 2) := by decide +kernel
theorem dj30_3 : decode jc30 3 = .ok (.astore_n 3, 1) := by decide +kernel
theorem dj30_4 : decode jc30 4 = .ok (.aload_n 0, 1) := by decide +kernel
theorem dj30_5 : decode jc30 5 = .ok (.iload_n 1, 1) := by decide +kernel
theorem dj30_6 : decode jc30 6 = .ok (.aload_n 3, 1) := by decide +kernel
theorem dj30_7 : decode jc30 7 = .ok (.iconst 0, 1) := by decide +kernel
theorem dj30_8 : decode jc30 8 = .ok (.iload_n 2, 1) := by decide +kernel
theorem dj30_9 : decode jc30 9 = .ok (.invokestatic 123, 3) := by decide +kernel
theorem dj30_12 : decode jc30 12 = .ok (.istore 4, 2) := by decide +kernel
theorem dj30_14 : decode jc30 14 = .ok (.iload 4, 2) := by decide +kernel
theorem dj30_16 : decode jc30 16 = .ok (.iload_n 2, 1) := by decide +kernel
theorem dj30_17 : decode jc30 17 = .ok (.if_icmp .eq 47, 3) := by decide +kernel
theorem dj30_20 : decode jc30 20 = .ok (.aload_n 0, 1) := by decide +kernel
theorem dj30_21 : decode jc30 21 = .ok (.iload_n 1, 1) := by decide +kernel
theorem dj30_22 : decode jc30 22 = .ok (.iconst 1, 1) := by decide +kernel
theorem dj30_23 : decode jc30 23 = .ok (.ishl, 1) := by decide +kernel
theorem dj30_24 : decode jc30 24 = .ok (.iload_n 1, 1) := by decide +kernel
theorem dj30_25 : decode jc30 25 = .ok (.iload_n 2, 1) := by decide +kernel
theorem dj30_26 : decode jc30 26 = .ok (.iadd, 1) := by decide +kernel
theorem dj30_27 : decode jc30 27 = .ok (.invokestatic 11, 3) := by decide +kernel
theorem dj30_30 : decode jc30 30 = .ok (.invokestatic 126, 3) := by decide +kernel
theorem dj30_33 : decode jc30 33 = .ok (.astore 5, 2) := by decide +kernel
theorem dj30_35 : decode jc30 35 = .ok (.aload 5, 2) := by decide +kernel
theorem dj30_37 : decode jc30 37 = .ok (.iload 4, 2) := by decide +kernel
theorem dj30_39 : decode jc30 39 = .ok (.invokestatic 71, 3) := by decide +kernel
theorem dj30_42 : decode jc30 42 = .ok (.sipush 255, 3) := by decide +kernel
theorem dj30_45 : decode jc30 45 = .ok (.if_icmp .gt 16, 3) := by decide +kernel
theorem dj30_61 : decode jc30 61 = .ok (.aload 5, 2) := by decide +kernel
theorem dj30_63 : decode jc30 63 = .ok (.areturn, 1) := by decide +kernel
theorem dj30_64 : decode jc30 64 = .ok (.aload_n 3, 1) := by decide +kernel
theorem dj30_65 : decode jc30 65 = .ok (.areturn, 1) := by decide +kernel
theorem pd_22 : parseMethodDescriptor "([BI[BII)I" = some ⟨[(.array .byte), .int, (.array .byte), .int, .int], some .int⟩ := by decide +kernel
theorem ef_cmb (mi : MethodId) (t : Addr) (off : Nat) (m : Nat) : entryFrame mi #[(.ref t), (.int (Int32.ofNat off)), (.int (Int32.ofNat m))] 6 = mkF mi 0 #[.val (.ref t), .val (.int (Int32.ofNat off)), .val (.int (Int32.ofNat m)), .unset, .unset, .unset] [] := rfl
def Q_cmb (Z : State) (t : Addr) (kt : ClassId) (cs : List Int32) (off m : Nat) (fm : Value) (hE : Heap) (n0 : Nat) (vv : Option Value) (hh : Heap) (LL : List Loc) : Prop := ∃ r : Addr, ∃ kr : ClassId, ∃ cd : Int32, ∃ N2 : Int32, ∃ vs : List Value, (vv = some (.ref r)) ∧ (Fr n0 LL) ∧ (Keep hE hh []) ∧ (hE.size ≤ r) ∧ (Arv Z hh r kr .byte N2 vs (.int 0)) ∧ (StrChars.Road.CodA (cs.drop off) cd N2 vs)
theorem rm_cmb (hw : HW a0 Z) (ws : List Cond) (t : Addr) (kt : ClassId) (cs : List Int32) (off m : Nat) (fm : Value) (hE : Heap) (n0 : Nat) (O : Old Z n0 hE) (P0_ : Arv Z hE t kt .byte (Int32.ofNat (2 * cs.length)) (StrChars.Road.wideBytes cs) (.int 0)) (D0_ : Sta Z Z.heap c1_ c6_ "Z" (.int 1)) (D1_ : Sta Z Z.heap c1_ c9_ "I" (.int 0)) (D2_ : Sta Z Z.heap c1_ c10_ "I" (.int 8)) (D3_ : Sta Z Z.heap c3_ c7_ c4_ fm) (ho : 0 < off) (hm0 : 0 < m) (he : off + m = cs.length) (h4 : cs.length ≤ 4) (hbd : ∀ c ∈ cs, ¬ c < 0 ∧ ¬ (65535 : Int32) < c) (hfm : fm.isRef = true) :
    MF la Z hE mn36 jc30 6 (some (.array .byte)) ws (rr 4 2 12 61) #[(.ref t), (.int (Int32.ofNat off)), (.int (Int32.ofNat m))] (Q_cmb Z t kt cs off m fm hE n0) := by
  refine MetFree.of_bodySF (plainFor_of_name pn_java_lang_StringUTF16) hisR ?_
  intro pg ev sb mi gs below me cd s₁ Bd hml0 hPt hKt
  obtain ⟨rfl, hZ, hh⟩ := hPt
  have hx := Bd.exec
  have hby := Bd.bytes
  have hml : cd.maxLocals = 6 := hml0
  have hown : sb.vm.findClass c1_ = some mi.cls := findClass_of_methodNamed Bd.named
  have X0 : Stand pg la ev (rr 4 2 12 61) sb mi #[(.ref t), (.int (Int32.ofNat off)), (.int (Int32.ofNat m))] below me cd s₁ [] 0 0 := Stand.of_body Bd
  have eE : s₁.heap = hE := by rw [← hh, Bd.state]; rfl
  have N0 := Fr.nil n0
  have pre0 : ∀ tt, SP pg ev below (s₁.setTop (mkF mi 0 #[.val (.ref t), .val (.int (Int32.ofNat off)), .val (.int (Int32.ofNat m)), .unset, .unset, .unset] [])) tt → SP pg ev below (s₁.setTop (entryFrame mi #[(.ref t), (.int (Int32.ofNat off)), (.int (Int32.ofNat m))] 6)) tt := fun tt kk => castTop (ef_cmb mi t off m) kk
  obtain ⟨T101, h101, k101, X101, e101, E101, A101, st101⟩ := newP (aty := .byte) X0 hx hZ (wd23 hw) eE (g := (mkF mi 1 #[.val (.ref t), .val (.int (Int32.ofNat off)), .val (.int (Int32.ofNat m)), .unset, .unset, .unset] [(.int (Int32.ofNat m))])) rfl (hb hby dj30_1) rfl (own_nn8 (by omega)) (cap := 4) (by rw [own_wn (by omega)]; omega) (by decide) (by decide) (by decide)
  obtain ⟨b101, q101⟩ : ∃ z, z = hE.size := ⟨_, rfl⟩
  rw [← q101] at A101 st101
  have f102 : Arv Z h101 b101 k101 .byte (Int32.ofNat m) ([] ++ List.replicate (m) (Value.int 0)) (.int 0) := (Arv.new A101 (own_nn8 (by omega))).pad (pad_rep [] (.int 0) (m))
  have O103 : Old Z n0 h101 := (O.ext E101)
  have f104 : Arv Z h101 t kt .byte (Int32.ofNat (2 * cs.length)) (StrChars.Road.wideBytes cs) (.int 0) := (P0_.ext E101)
  have g_b101 : n0 ≤ b101 := Nat.le_trans (Nat.le_trans (Nat.le_of_eq O.1.symm) O.2.1) (Nat.le_of_eq q101.symm)
  have ne_t_b101 : t ≠ b101 := Nat.ne_of_lt (Nat.lt_of_lt_of_le P0_.lt (Nat.le_trans (Nat.le_refl _) (Nat.le_of_eq q101.symm)))
  obtain ⟨v105, _, ⟨T105, L105, k105, n105⟩, -, X105, ⟨Lc105, hQ105, l105, y105, z105⟩, st105⟩ := Jvm.LawKit.callS X101 hx (y := mn35) hown (mvT hZ (wd196 hw)) (mvT hZ (wd197 hw)) (mvT hZ (wd83 hw)) (mvT hZ (wd198 hw)) (by decide) (backOf (W := 0) (rm_cuX la Z a0 hw [] t b101 kt k101 cs off m fm h101 n0 O103 f104 f102 D0_ D1_ D2_ D3_ g_b101 ne_t_b101 (ho : 0 < off) (hm0 : 0 < m) (he : off + m = cs.length) (h4 : cs.length ≤ 4) (hbd : ∀ c ∈ cs, ¬ c < 0 ∧ ¬ (65535 : Int32) < c) (hfm : fm.isRef = true)) hZ (wd198 hw) (wd83 hw) (by decide) (by decide)) (g := (mkF mi 9 #[.val (.ref t), .val (.int (Int32.ofNat off)), .val (.int (Int32.ofNat m)), .val (.ref b101), .unset, .unset] [(.int (Int32.ofNat m)), (.int 0), (.ref b101), (.int (Int32.ofNat off)), (.ref t)])) rfl (by rw [hml]; rfl) (argsL := [(.ref t), (.int (Int32.ofNat off)), (.ref b101), (.int 0), (.int (Int32.ofNat m))]) (rest := []) (lenOf pd_22 rfl) rfl (Nat.le_of_ble_eq_true rfl) (hb hby dj30_9) (fun _ _ => ⟨rfl, e101, (by decide : 1 + 0 ≤ _), (by decide : 4 + 0 ≤ _)⟩)
  dsimp only [Pt.U, Pt.locs, Pt.cells, Pt.slots] at X105 l105 y105 z105 st105 hQ105
  subst l105 y105 z105
  obtain ⟨r_105, vs_105, rfl, Nq105, Kq105, r105_0, ph105_cpr⟩ := hQ105
  have N105 := Fr.app N0 Nq105
  have pre106 : ∀ tt, SP pg ev below (T105.setTop (mkF mi 12 #[.val (.ref t), .val (.int (Int32.ofNat off)), .val (.int (Int32.ofNat m)), .val (.ref b101), .unset, .unset] [(.int r_105)])) tt → SP pg ev below (s₁.setTop (entryFrame mi #[(.ref t), (.int (Int32.ofNat off)), (.int (Int32.ofNat m))] 6)) tt := fun tt kk => pre0 _ (by
    show SP pg ev below (s₁.setTop (mkF mi 0 #[.val (.ref t), .val (.int (Int32.ofNat off)), .val (.int (Int32.ofNat m)), .unset, .unset, .unset] [])) _
    refine XS.iloadN X0.here hx rfl (hb hby dj30_0) rfl ?_
    refine st101 _ ?_
    refine XS.astoreN X101.here hx rfl (hb hby dj30_3) rfl rfl (l' := #[.val (.ref t), .val (.int (Int32.ofNat off)), .val (.int (Int32.ofNat m)), .val (.ref b101), .unset, .unset]) rfl ?_
    refine XS.aloadN X101.here hx rfl (hb hby dj30_4) rfl rfl ?_
    refine XS.iloadN X101.here hx rfl (hb hby dj30_5) rfl ?_
    refine XS.aloadN X101.here hx rfl (hb hby dj30_6) rfl rfl ?_
    refine XS.iconst X101.here hx rfl (hb hby dj30_7) ?_
    refine XS.iloadN X101.here hx rfl (hb hby dj30_8) rfl ?_
    refine st105 _ ?_
    exact kk)
  rcases ph105_cpr with ⟨rfl, rfl, hq107⟩ | ⟨i107, hi107, rfl, hq107⟩
  · obtain ⟨fs, hr, hrun, hended, hW, hsame⟩ := X105.leave (v := some (.ref b101)) (fun hq => by rw [Bd.returns] at hq; cases hq)
    refine ⟨_, _, pre106 _ ?_, hrun, hended, _, _, rfl, ?_, ⟨_, rfl⟩, hW, hsame.mono (by decide) (by decide)⟩
    · show SP pg ev below (T105.setTop (mkF mi 12 #[.val (.ref t), .val (.int (Int32.ofNat off)), .val (.int (Int32.ofNat m)), .val (.ref b101), .unset, .unset] [(.int (Int32.ofNat (cs.drop off).length))])) _
      refine XS.istore X105.here hx rfl (hb hby dj30_12) rfl (l' := #[.val (.ref t), .val (.int (Int32.ofNat off)), .val (.int (Int32.ofNat m)), .val (.ref b101), .val (.int (Int32.ofNat (cs.drop off).length)), .unset]) rfl ?_
      refine XS.iload X105.here hx rfl (hb hby dj30_14) rfl ?_
      refine XS.iloadN X105.here hx rfl (hb hby dj30_16) rfl ?_
      refine XS.icmpYes X105.here hx rfl (pc0 := 17) (pc' := 64) rfl (hb hby dj30_17) rfl (teq (by rw [own_dl he])).1 (by decide) (by decide) ?_
      refine XS.aloadN X105.here hx rfl (hb hby dj30_64) rfl rfl ?_
      show SP pg ev below (T105.setTop (mkF mi 65 #[.val (.ref t), .val (.int (Int32.ofNat off)), .val (.int (Int32.ofNat m)), .val (.ref b101), .val (.int (Int32.ofNat (cs.drop off).length)), .unset] [(.ref b101)])) _
      jvm_step X105.here [X105.here.top, hx, (hb hby dj30_65), X105.method', Bd.returns, Value.isRef, FieldType.isReference]
      first | (intro acts; rw [hr _ acts rfl rfl rfl]) | rw [hr _ _ rfl rfl rfl]
      exact Steps.refl _
    · show Q_cmb Z t kt cs off m fm hE n0 _ T105.heap _
      exact ⟨b101, k101, (0 : Int32), (Int32.ofNat m), ((cs.drop off).map fun c => Value.int (StrChars.lo8 c)), rfl, N105, (((Keep.refl hE []).ext E101).trans Kq105 (allS (Or.inr (Nat.le_of_eq q101.symm)) all0)), (Nat.le_of_eq q101.symm), r105_0, (Or.inl ⟨rfl, by rw [own_dl he], rfl, hq107⟩)⟩
  · have pre108 : ∀ tt, SP pg ev below (T105.setTop (mkF mi 24 #[.val (.ref t), .val (.int (Int32.ofNat off)), .val (.int (Int32.ofNat m)), .val (.ref b101), .val (.int (Int32.ofNat i107)), .unset] [(.int ((Int32.ofNat off) <<< ((1 : Int32) &&& 31))), (.ref t)])) tt → SP pg ev below (s₁.setTop (entryFrame mi #[(.ref t), (.int (Int32.ofNat off)), (.int (Int32.ofNat m))] 6)) tt := fun tt kk => pre106 _ (by
      show SP pg ev below (T105.setTop (mkF mi 12 #[.val (.ref t), .val (.int (Int32.ofNat off)), .val (.int (Int32.ofNat m)), .val (.ref b101), .unset, .unset] [(.int (Int32.ofNat i107))])) _
      refine XS.istore X105.here hx rfl (hb hby dj30_12) rfl (l' := #[.val (.ref t), .val (.int (Int32.ofNat off)), .val (.int (Int32.ofNat m)), .val (.ref b101), .val (.int (Int32.ofNat i107)), .unset]) rfl ?_
      refine XS.iload X105.here hx rfl (hb hby dj30_14) rfl ?_
      refine XS.iloadN X105.here hx rfl (hb hby dj30_16) rfl ?_
      refine XS.icmpNo X105.here hx rfl (hb hby dj30_17) rfl (feq (fun q => absurd ((own_eq8 (by have := hi107; rw [own_dl he] at this; omega) (by omega)).mp q) (by have := hi107; rw [own_dl he] at this; omega))).1 ?_
      refine XS.aloadN X105.here hx rfl (hb hby dj30_20) rfl rfl ?_
      refine XS.iloadN X105.here hx rfl (hb hby dj30_21) rfl ?_
      refine XS.iconst X105.here hx rfl (hb hby dj30_22) ?_
      refine XS.ishl X105.here hx rfl (hb hby dj30_23) rfl ?_
      exact kk)
    have pre109 : ∀ tt, SP pg ev below (T105.setTop (mkF mi 24 #[.val (.ref t), .val (.int (Int32.ofNat off)), .val (.int (Int32.ofNat m)), .val (.ref b101), .val (.int (Int32.ofNat i107)), .unset] [(.int (Int32.ofNat (2 * off))), (.ref t)])) tt → SP pg ev below (s₁.setTop (entryFrame mi #[(.ref t), (.int (Int32.ofNat off)), (.int (Int32.ofNat m))] 6)) tt := fun tt kk => pre108 tt (by rw [show ((Int32.ofNat off) <<< ((1 : Int32) &&& 31)) = (Int32.ofNat (2 * off)) from own_shl1 (by omega)]; exact kk)
    have pre110 : ∀ tt, SP pg ev below (T105.setTop (mkF mi 27 #[.val (.ref t), .val (.int (Int32.ofNat off)), .val (.int (Int32.ofNat m)), .val (.ref b101), .val (.int (Int32.ofNat i107)), .unset] [(.int ((Int32.ofNat off) + (Int32.ofNat m))), (.int (Int32.ofNat (2 * off))), (.ref t)])) tt → SP pg ev below (s₁.setTop (entryFrame mi #[(.ref t), (.int (Int32.ofNat off)), (.int (Int32.ofNat m))] 6)) tt := fun tt kk => pre109 _ (by
      show SP pg ev below (T105.setTop (mkF mi 24 #[.val (.ref t), .val (.int (Int32.ofNat off)), .val (.int (Int32.ofNat m)), .val (.ref b101), .val (.int (Int32.ofNat i107)), .unset] [(.int (Int32.ofNat (2 * off))), (.ref t)])) _
      refine XS.iloadN X105.here hx rfl (hb hby dj30_24) rfl ?_
      refine XS.iloadN X105.here hx rfl (hb hby dj30_25) rfl ?_
      refine XS.iadd X105.here hx rfl (hb hby dj30_26) rfl ?_
      exact kk)
    have pre111 : ∀ tt, SP pg ev below (T105.setTop (mkF mi 27 #[.val (.ref t), .val (.int (Int32.ofNat off)), .val (.int (Int32.ofNat m)), .val (.ref b101), .val (.int (Int32.ofNat i107)), .unset] [(.int (Int32.ofNat cs.length)), (.int (Int32.ofNat (2 * off))), (.ref t)])) tt → SP pg ev below (s₁.setTop (entryFrame mi #[(.ref t), (.int (Int32.ofNat off)), (.int (Int32.ofNat m))] 6)) tt := fun tt kk => pre110 tt (by rw [show ((Int32.ofNat off) + (Int32.ofNat m)) = (Int32.ofNat cs.length) from by rw [own_add32, he]]; exact kk)
    have O112 : Old Z n0 T105.heap := (O103.keep Kq105 (allS g_b101 all0))
    obtain ⟨v113, _, ⟨T113, L113, k113, n113⟩, -, X113, ⟨Lc113, hQ113, l113, y113, z113⟩, st113⟩ := Jvm.LawKit.callS X105 hx (y := mn15) hown (mvT hZ (wd156 hw)) (mvT hZ (wd157 hw)) (mvT hZ (wd83 hw)) (mvT hZ (wd158 hw)) (by decide) (backOf (W := 2) (rm_nbl la Z a0 hw [] cs.length T105.heap n0 O112 (by omega : cs.length ≤ 4000)) hZ (wd158 hw) (wd83 hw) (by decide) (by decide)) (g := (mkF mi 27 #[.val (.ref t), .val (.int (Int32.ofNat off)), .val (.int (Int32.ofNat m)), .val (.ref b101), .val (.int (Int32.ofNat i107)), .unset] [(.int (Int32.ofNat cs.length)), (.int (Int32.ofNat (2 * off))), (.ref t)])) rfl (by rw [hml]; rfl) (argsL := [(.int (Int32.ofNat cs.length))]) (rest := [(.int (Int32.ofNat (2 * off))), (.ref t)]) (lenOf pd_5 rfl) rfl (Nat.le_of_ble_eq_true rfl) (hb hby dj30_27) (fun _ _ => ⟨rfl, rfl, (by decide : 1 + 0 ≤ _), (by decide : 4 + 0 ≤ _)⟩)
    dsimp only [Pt.U, Pt.locs, Pt.cells, Pt.slots] at X113 l113 y113 z113 st113 hQ113
    subst l113 y113 z113
    obtain ⟨rfl, Nq113, ek113⟩ := hQ113
    have N113 := Fr.app N105 Nq113
    have f114 : Arv Z T105.heap t kt .byte (Int32.ofNat (2 * cs.length)) (StrChars.Road.wideBytes cs) (.int 0) := (f104.keep Kq105 (ninS ne_t_b101 nin0))
    obtain ⟨v115, _, ⟨T115, L115, k115, n115⟩, -, X115, ⟨Lc115, hQ115, l115, y115, z115⟩, st115⟩ := Jvm.LawKit.callS X113 hx (y := mn32) hown (mvT hZ (wd208 hw)) (mvT hZ (wd117 hw)) (mvT hZ (wd118 hw)) (mvT hZ (wd119 hw)) (by decide) (backOf (W := 0) (rm_crc la Z a0 hw [] t kt (2 * cs.length) (StrChars.Road.wideBytes cs) (2 * off) T105.heap n0 O112 f114 (by omega : 0 < (2 * off)) (by omega : (2 * off) ≤ (2 * cs.length)) (by omega : (2 * cs.length) ≤ 8000) (own_wlen cs : (StrChars.Road.wideBytes cs).length = (2 * cs.length)) (by omega : (2 * cs.length) - (2 * off) ≤ 8)) hZ (wd119 hw) (wd118 hw) (by decide) (by decide)) (g := (mkF mi 30 #[.val (.ref t), .val (.int (Int32.ofNat off)), .val (.int (Int32.ofNat m)), .val (.ref b101), .val (.int (Int32.ofNat i107)), .unset] [(.int (Int32.ofNat (2 * cs.length))), (.int (Int32.ofNat (2 * off))), (.ref t)])) rfl (by rw [hml]; rfl) (argsL := [(.ref t), (.int (Int32.ofNat (2 * off))), (.int (Int32.ofNat (2 * cs.length)))]) (rest := []) (lenOf pd_20 rfl) rfl (Nat.le_of_ble_eq_true rfl) (hb hby dj30_30) (fun _ _ => ⟨rfl, ek113, (by decide : 1 + 1 ≤ _), (by decide : 4 + 8 ≤ _)⟩)
    dsimp only [Pt.U, Pt.locs, Pt.cells, Pt.slots] at X115 l115 y115 z115 st115 hQ115
    subst l115 y115 z115
    obtain ⟨r_115, kr_115, rfl, Nq115, Kq115, fr_r_115, r115_0⟩ := hQ115
    have N115 := Fr.app N113 Nq115
    have f116 : Arv Z T115.heap r_115 kr_115 .byte (Int32.ofNat (2 * (cs.drop off).length)) (StrChars.Road.wideBytes (cs.drop off)) (.int 0) := by have q := r115_0; rw [own_wdr, show 2 * cs.length - 2 * off = 2 * (cs.drop off).length from by rw [own_dl he]; omega] at q; exact q
    have O117 : Old Z n0 T115.heap := (O112.keep Kq115 all0)
    obtain ⟨v118, _, ⟨T118, L118, k118, n118⟩, -, X118, ⟨Lc118, hQ118, l118, y118, z118⟩, st118⟩ := Jvm.LawKit.callS X115 hx (y := mn0) hown (mvT hZ (wd166 hw)) (mvT hZ (wd167 hw)) (mvT hZ (wd83 hw)) (mvT hZ (wd168 hw)) (by decide) (backOf (W := 0) (rm_gch la Z a0 hw [] r_115 (Int32.ofNat i107) kr_115 (cs.drop off) i107 T115.heap n0 O117 f116 D0_ D1_ D2_ (rfl : (Int32.ofNat i107) = Int32.ofNat i107) (hi107 : i107 < (cs.drop off).length) (by rw [own_dl he]; omega : (cs.drop off).length ≤ 4000) ((fun c hc => hbd c (List.mem_of_mem_drop hc)) : ∀ c ∈ (cs.drop off), ¬ c < 0 ∧ ¬ (65535 : Int32) < c)) hZ (wd168 hw) (wd83 hw) (by decide) (by decide)) (g := (mkF mi 39 #[.val (.ref t), .val (.int (Int32.ofNat off)), .val (.int (Int32.ofNat m)), .val (.ref b101), .val (.int (Int32.ofNat i107)), .val (.ref r_115)] [(.int (Int32.ofNat i107)), (.ref r_115)])) rfl (by rw [hml]; rfl) (argsL := [(.ref r_115), (.int (Int32.ofNat i107))]) (rest := []) (lenOf pd_10 rfl) rfl (Nat.le_of_ble_eq_true rfl) (hb hby dj30_39) (fun _ _ => ⟨rfl, rfl, (by decide : 2 + 0 ≤ _), (by decide : 12 + 0 ≤ _)⟩)
    dsimp only [Pt.U, Pt.locs, Pt.cells, Pt.slots] at X118 l118 y118 z118 st118 hQ118
    subst l118 y118 z118
    obtain ⟨rfl, Nq118, ek118⟩ := hQ118
    have N118 := Fr.app N115 Nq118
    obtain ⟨fs, hr, hrun, hended, hW, hsame⟩ := X118.leave (v := some (.ref r_115)) (fun hq => by rw [Bd.returns] at hq; cases hq)
    refine ⟨_, _, pre111 _ ?_, hrun, hended, _, _, rfl, ?_, ⟨_, rfl⟩, hW, hsame.mono (by decide) (by decide)⟩
    · show SP pg ev below (T105.setTop (mkF mi 27 #[.val (.ref t), .val (.int (Int32.ofNat off)), .val (.int (Int32.ofNat m)), .val (.ref b101), .val (.int (Int32.ofNat i107)), .unset] [(.int (Int32.ofNat cs.length)), (.int (Int32.ofNat (2 * off))), (.ref t)])) _
      refine st113 _ ?_
      refine st115 _ ?_
      refine XS.astore X115.here hx rfl (hb hby dj30_33) rfl rfl (l' := #[.val (.ref t), .val (.int (Int32.ofNat off)), .val (.int (Int32.ofNat m)), .val (.ref b101), .val (.int (Int32.ofNat i107)), .val (.ref r_115)]) rfl ?_
      refine XS.aload X115.here hx rfl (hb hby dj30_35) rfl rfl ?_
      refine XS.iload X115.here hx rfl (hb hby dj30_37) rfl ?_
      refine st118 _ ?_
      refine XS.sipush X118.here hx rfl (hb hby dj30_42) ?_
      refine XS.icmpYes X118.here hx rfl (pc0 := 45) (pc' := 61) rfl (hb hby dj30_45) rfl (tlt hq107).2.2.1 (by decide) (by decide) ?_
      refine XS.aload X118.here hx rfl (hb hby dj30_61) rfl rfl ?_
      show SP pg ev below (T118.setTop (mkF mi 63 #[.val (.ref t), .val (.int (Int32.ofNat off)), .val (.int (Int32.ofNat m)), .val (.ref b101), .val (.int (Int32.ofNat i107)), .val (.ref r_115)] [(.ref r_115)])) _
      jvm_step X118.here [X118.here.top, hx, (hb hby dj30_63), X118.method', Bd.returns, Value.isRef, FieldType.isReference]
      first | (intro acts; rw [hr _ acts rfl rfl rfl]) | rw [hr _ _ rfl rfl rfl]
      exact Steps.refl _
    · show Q_cmb Z t kt cs off m fm hE n0 _ T118.heap _
      rw [ek118]
      exact ⟨r_115, kr_115, (1 : Int32), (Int32.ofNat (2 * (cs.drop off).length)), (StrChars.Road.wideBytes (cs.drop off)), rfl, N118, ((((Keep.refl hE []).ext E101).trans Kq105 (allS (Or.inr (Nat.le_of_eq q101.symm)) all0)).trans Kq115 all0), (Nat.le_trans (Nat.le_trans E101.1 Kq105.1) fr_r_115), f116, (Or.inr ⟨rfl, rfl, rfl, ⟨_, own_getD_mem hi107, hq107⟩⟩)⟩
theorem dj31_0 : decode jc31 0 = .ok (.iload_n 2, 1) := by decide +kernel
theorem dj31_1 : decode jc31 1 = .ok (.ifCond .ne 7, 3) := by decide +kernel
theorem dj31_8 : decode jc31 8 = .ok (.getstatic 251, 3) := by decide +kernel
theorem dj31_11 : decode jc31 11 = .ok (.ifCond .eq 28, 3) := by decide +kernel
theorem dj31_14 : decode jc31 14 = .ok (.aload_n 0, 1) := by decide +kernel
theorem dj31_15 : decode jc31 15 = .ok (.iload_n 1, 1) := by decide +kernel
theorem dj31_16 : decode jc31 16 = .ok (.iload_n 2, 1) := by decide +kernel
theorem dj31_17 : decode jc31 17 = .ok (.invokestatic 257, 3) := by decide +kernel
theorem dj31_20 : decode jc31 20 = .ok (.astore_n 3, 1) := by decide +kernel
theorem dj31_21 : decode jc31 21 = .ok (.aload_n 3, 1) := by decide +kernel
theorem dj31_22 : decode jc31 22 = .ok (.iload_n 2, 1) := by decide +kernel
theorem dj31_23 : decode jc31 23 = .ok (.invokestatic 259, 3) := by decide +kernel
theorem dj31_26 : decode jc31 26 = .ok (.istore 4, 2) := by decide +kernel
theorem dj31_28 : decode jc31 28 = .ok (.new 3, 3) := by decide +kernel
theorem dj31_31 : decode jc31 31 = .ok (.dup, 1) := by decide +kernel
theorem dj31_32 : decode jc31 32 = .ok (.aload_n 3, 1) := by decide +kernel
theorem dj31_33 : decode jc31 33 = .ok (.iload 4, 2) := by decide +kernel
theorem dj31_35 : decode jc31 35 = .ok (.invokespecial 263, 3) := by decide +kernel
theorem dj31_38 : decode jc31 38 = .ok (.areturn, 1) := by decide +kernel
theorem ef_uns (mi : MethodId) (t : Addr) (off : Nat) (m : Nat) : entryFrame mi #[(.ref t), (.int (Int32.ofNat off)), (.int (Int32.ofNat m))] 5 = mkF mi 0 #[.val (.ref t), .val (.int (Int32.ofNat off)), .val (.int (Int32.ofNat m)), .unset, .unset] [] := rfl
def Q_uns (Z : State) (t : Addr) (kt : ClassId) (cs : List Int32) (off m : Nat) (zc : Int32) (fm : Value) (hE : Heap) (n0 : Nat) (vv : Option Value) (hh : Heap) (LL : List Loc) : Prop := ∃ y : Addr, ∃ u : Addr, (vv = some (.ref y)) ∧ (Fr n0 LL) ∧ (Keep hE hh []) ∧ (hE.size ≤ y) ∧ (hE.size ≤ u) ∧ (WStr Z hh y u (cs.drop off))
theorem rm_uns (hw : HW a0 Z) (ws : List Cond) (t : Addr) (kt : ClassId) (cs : List Int32) (off m : Nat) (zc : Int32) (fm : Value) (hE : Heap) (n0 : Nat) (O : Old Z n0 hE) (P0_ : Arv Z hE t kt .byte (Int32.ofNat (2 * cs.length)) (StrChars.Road.wideBytes cs) (.int 0)) (D0_ : Sta Z Z.heap c1_ c6_ "Z" (.int 1)) (D1_ : Sta Z Z.heap c1_ c9_ "I" (.int 0)) (D2_ : Sta Z Z.heap c1_ c10_ "I" (.int 8)) (D3_ : Sta Z Z.heap c0_ c8_ "Z" (.int zc)) (D4_ : Sta Z Z.heap c3_ c7_ c4_ fm) (ho : 0 < off) (hm0 : 0 < m) (he : off + m = cs.length) (h4 : cs.length ≤ 4) (hbd : ∀ c ∈ cs, ¬ c < 0 ∧ ¬ (65535 : Int32) < c) (hfm : fm.isRef = true) (hzc : ¬ (zc = (0 : Int32))) :
    MF la Z hE mn37 jc31 5 (some (.object c0_)) ws (rr 5 3 16 78) #[(.ref t), (.int (Int32.ofNat off)), (.int (Int32.ofNat m))] (Q_uns Z t kt cs off m zc fm hE n0) := by
  refine MetFree.of_bodySF (plainFor_of_name pn_java_lang_StringUTF16) hisR ?_
  intro pg ev sb mi gs below me cd s₁ Bd hml0 hPt hKt
  obtain ⟨rfl, hZ, hh⟩ := hPt
  have hx := Bd.exec
  have hby := Bd.bytes
  have hml : cd.maxLocals = 5 := hml0
  have hown : sb.vm.findClass c1_ = some mi.cls := findClass_of_methodNamed Bd.named
  have X0 : Stand pg la ev (rr 5 3 16 78) sb mi #[(.ref t), (.int (Int32.ofNat off)), (.int (Int32.ofNat m))] below me cd s₁ [] 0 0 := Stand.of_body Bd
  have eE : s₁.heap = hE := by rw [← hh, Bd.state]; rfl
  have N0 := Fr.nil n0
  have pre0 : ∀ tt, SP pg ev below (s₁.setTop (mkF mi 0 #[.val (.ref t), .val (.int (Int32.ofNat off)), .val (.int (Int32.ofNat m)), .unset, .unset] [])) tt → SP pg ev below (s₁.setTop (entryFrame mi #[(.ref t), (.int (Int32.ofNat off)), (.int (Int32.ofNat m))] 5)) tt := fun tt kk => castTop (ef_uns mi t off m) kk
  obtain ⟨T101, X101, e101, st101⟩ := getS2 X0 hx hZ hown (host := "") (Or.inl (wd192 hw)) Via.refl eE (D3_.ext O.2) (g := (mkF mi 8 #[.val (.ref t), .val (.int (Int32.ofNat off)), .val (.int (Int32.ofNat m)), .unset, .unset] [])) rfl (hb hby dj31_8)
  obtain ⟨v102, _, ⟨T102, L102, k102, n102⟩, -, X102, ⟨Lc102, hQ102, l102, y102, z102⟩, st102⟩ := Jvm.LawKit.callS X101 hx (y := mn36) hown (mvT hZ (wd193 hw)) (mvT hZ (wd194 hw)) (mvT hZ (wd83 hw)) (mvT hZ (wd195 hw)) (by decide) (backOf (W := 0) (rm_cmb la Z a0 hw [] t kt cs off m fm hE n0 O P0_ D0_ D1_ D2_ D4_ (ho : 0 < off) (hm0 : 0 < m) (he : off + m = cs.length) (h4 : cs.length ≤ 4) (hbd : ∀ c ∈ cs, ¬ c < 0 ∧ ¬ (65535 : Int32) < c) (hfm : fm.isRef = true)) hZ (wd195 hw) (wd83 hw) (by decide) (by decide)) (g := (mkF mi 17 #[.val (.ref t), .val (.int (Int32.ofNat off)), .val (.int (Int32.ofNat m)), .unset, .unset] [(.int (Int32.ofNat m)), (.int (Int32.ofNat off)), (.ref t)])) rfl (by rw [hml]; rfl) (argsL := [(.ref t), (.int (Int32.ofNat off)), (.int (Int32.ofNat m))]) (rest := []) (lenOf pd_20 rfl) rfl (Nat.le_of_ble_eq_true rfl) (hb hby dj31_17) (fun _ _ => ⟨rfl, e101, (by decide : 0 + 2 ≤ _), (by decide : 0 + 12 ≤ _)⟩)
  dsimp only [Pt.U, Pt.locs, Pt.cells, Pt.slots] at X102 l102 y102 z102 st102 hQ102
  subst l102 y102 z102
  obtain ⟨r_102, kr_102, cd_102, N2_102, vs_102, rfl, Nq102, Kq102, fr_r_102, r102_0, ph102_cod⟩ := hQ102
  have N102 := Fr.app N0 Nq102
  have O103 : Old Z n0 T102.heap := (O.keep Kq102 all0)
  obtain ⟨v104, _, ⟨T104, L104, k104, n104⟩, -, X104, ⟨Lc104, hQ104, l104, y104, z104⟩, st104⟩ := Jvm.LawKit.callS X102 hx (y := mn14) hown (mvT hZ (wd209 hw)) (mvT hZ (wd89 hw)) (mvT hZ (wd83 hw)) (mvT hZ (wd90 hw)) (by decide) (backOf (W := 0) (rm_cfw la Z a0 hw [] r_102 (Int32.ofNat m) kr_102 N2_102 vs_102 cd_102 (cs.drop off) T102.heap n0 O103 r102_0 (by rw [own_dl he] : (Int32.ofNat m) = Int32.ofNat (cs.drop off).length) (by rw [own_dl he]; omega : 0 < (cs.drop off).length) (by rw [own_dl he]; omega : (cs.drop off).length ≤ 4) (ph102_cod : StrChars.Road.CodA (cs.drop off) cd_102 N2_102 vs_102)) hZ (wd90 hw) (wd83 hw) (by decide) (by decide)) (g := (mkF mi 23 #[.val (.ref t), .val (.int (Int32.ofNat off)), .val (.int (Int32.ofNat m)), .val (.ref r_102), .unset] [(.int (Int32.ofNat m)), (.ref r_102)])) rfl (by rw [hml]; rfl) (argsL := [(.ref r_102), (.int (Int32.ofNat m))]) (rest := []) (lenOf pd_11 rfl) rfl (Nat.le_of_ble_eq_true rfl) (hb hby dj31_23) (fun _ _ => ⟨rfl, rfl, (by decide : 2 + 0 ≤ _), (by decide : 12 + 0 ≤ _)⟩)
  dsimp only [Pt.U, Pt.locs, Pt.cells, Pt.slots] at X104 l104 y104 z104 st104 hQ104
  subst l104 y104 z104
  obtain ⟨rfl, Nq104, ek104⟩ := hQ104
  have N104 := Fr.app N102 Nq104
  obtain ⟨T105, h105, X105, e105, E105, A105, D105, -, st105⟩ := newO X104 hx hZ hown (wd210 hw) (wd10 hw) (wd11 hw) ek104 (g := (mkF mi 28 #[.val (.ref t), .val (.int (Int32.ofNat off)), .val (.int (Int32.ofNat m)), .val (.ref r_102), .val (.int cd_102)] [])) rfl (hb hby dj31_28) (by decide) (by decide)
  obtain ⟨b105, q105⟩ : ∃ z, z = T102.heap.size := ⟨_, rfl⟩
  rw [← q105] at A105 D105 st105
  have f106 : Fld Z h105 b105 c0_ "value" "[B" .null := D105 (Or.inr (wd24 hw)) (ty := (.array .byte)) (by decide)
  have f107 : Fld Z h105 b105 c0_ "coder" "B" (.int 0) := D105 (Or.inr (wd25 hw)) (ty := .byte) (by decide)
  have O108 : Old Z n0 h105 := (O103.ext E105)
  have g_b105 : n0 ≤ b105 := Nat.le_trans (Nat.le_trans (Nat.le_of_eq O103.1.symm) O103.2.1) (Nat.le_of_eq q105.symm)
  obtain ⟨v109, _, ⟨T109, L109, k109, n109⟩, -, X109, ⟨Lc109, hQ109, l109, y109, z109⟩, st109⟩ := X105.specialBack hx (y := mn33) rfl hown (mvT hZ (wd211 hw)) (mvT hZ (wd132 hw)) (mvT hZ (wd133 hw)) (by decide) (backOf (W := 1) (rm_sbw la Z a0 hw [] b105 r_102 cd_102 h105 n0 O108 A105 f106 f107 g_b105 (own_cd8 ph102_cod : cd_102.toInt8.toInt32 = cd_102)) hZ (wd133 hw) (wd11 hw) (by decide) (by decide)) (g := (mkF mi 35 #[.val (.ref t), .val (.int (Int32.ofNat off)), .val (.int (Int32.ofNat m)), .val (.ref r_102), .val (.int cd_102)] [(.int cd_102), (.ref r_102), (.ref b105), (.ref b105)])) rfl (by rw [hml]; rfl) (Steps.refl _) (a := b105) (argsL := [(.ref r_102), (.int cd_102)]) (rest := [(.ref b105)]) (lenOf pd_21 rfl) rfl (Nat.le_of_ble_eq_true rfl) (hb hby dj31_35) (fun _ _ => ⟨rfl, e105, (by decide : 3 + 0 ≤ _), (by decide : 16 + 0 ≤ _)⟩)
  dsimp only [Pt.U, Pt.locs, Pt.cells, Pt.slots] at X109 l109 y109 z109 st109 hQ109
  subst l109 y109 z109
  obtain ⟨rfl, Nq109, Kq109, r109_0, r109_1, r109_2⟩ := hQ109
  have N109 := Fr.app N104 Nq109
  have ne_r_102_b105 : r_102 ≠ b105 := Nat.ne_of_lt (Nat.lt_of_lt_of_le r102_0.lt (Nat.le_trans (Nat.le_refl _) (Nat.le_of_eq q105.symm)))
  have f110 : Arv Z T109.heap r_102 kr_102 .byte N2_102 vs_102 (.int 0) := ((r102_0.ext E105).keep Kq109 (ninS ne_r_102_b105 nin0))
  have s111 : WStr Z T109.heap b105 r_102 (cs.drop off) := ⟨r109_0, r109_1, ⟨_, _, _, _, r109_2, f110, ph102_cod⟩, (fun c hc => hbd c (List.mem_of_mem_drop hc)), (by rw [own_dl he]; omega)⟩
  obtain ⟨fs, hr, hrun, hended, hW, hsame⟩ := X109.leave (v := some (.ref b105)) (fun hq => by rw [Bd.returns] at hq; cases hq)
  refine ⟨_, _, pre0 _ ?_, hrun, hended, _, _, rfl, ?_, ⟨_, rfl⟩, hW, hsame.mono (by decide) (by decide)⟩
  · show SP pg ev below (s₁.setTop (mkF mi 0 #[.val (.ref t), .val (.int (Int32.ofNat off)), .val (.int (Int32.ofNat m)), .unset, .unset] [])) _
    refine XS.iloadN X0.here hx rfl (hb hby dj31_0) rfl ?_
    refine XS.ifYes X0.here hx rfl (pc0 := 1) (pc' := 8) rfl (hb hby dj31_1) rfl ((if0 _ _).trans (feq (fun q => absurd ((own_eq8 (a := m) (b := 0) (by omega) (by omega)).mp q) (by omega))).2) (by decide) (by decide) ?_
    refine st101 _ ?_
    refine XS.ifNo X101.here hx rfl (hb hby dj31_11) rfl ((if0 _ _).trans (feq hzc).1) ?_
    refine XS.aloadN X101.here hx rfl (hb hby dj31_14) rfl rfl ?_
    refine XS.iloadN X101.here hx rfl (hb hby dj31_15) rfl ?_
    refine XS.iloadN X101.here hx rfl (hb hby dj31_16) rfl ?_
    refine st102 _ ?_
    refine XS.astoreN X102.here hx rfl (hb hby dj31_20) rfl rfl (l' := #[.val (.ref t), .val (.int (Int32.ofNat off)), .val (.int (Int32.ofNat m)), .val (.ref r_102), .unset]) rfl ?_
    refine XS.aloadN X102.here hx rfl (hb hby dj31_21) rfl rfl ?_
    refine XS.iloadN X102.here hx rfl (hb hby dj31_22) rfl ?_
    refine st104 _ ?_
    refine XS.istore X104.here hx rfl (hb hby dj31_26) rfl (l' := #[.val (.ref t), .val (.int (Int32.ofNat off)), .val (.int (Int32.ofNat m)), .val (.ref r_102), .val (.int cd_102)]) rfl ?_
    refine st105 _ ?_
    refine XS.dup X105.here hx rfl (hb hby dj31_31) rfl rfl ?_
    refine XS.aloadN X105.here hx rfl (hb hby dj31_32) rfl rfl ?_
    refine XS.iload X105.here hx rfl (hb hby dj31_33) rfl ?_
    refine st109.trans ?_
    show SP pg ev below (T109.setTop (mkF mi 38 #[.val (.ref t), .val (.int (Int32.ofNat off)), .val (.int (Int32.ofNat m)), .val (.ref r_102), .val (.int cd_102)] [(.ref b105)])) _
    jvm_step X109.here [X109.here.top, hx, (hb hby dj31_38), X109.method', Bd.returns, Value.isRef, FieldType.isReference]
    first | (intro acts; rw [hr _ acts rfl rfl rfl]) | rw [hr _ _ rfl rfl rfl]
    exact Steps.refl _
  · show Q_uns Z t kt cs off m zc fm hE n0 _ T109.heap _
    exact ⟨b105, r_102, rfl, N109, ((((Keep.refl hE []).trans Kq102 all0).ext E105).trans Kq109 (allS (Or.inr (Nat.le_trans Kq102.1 (Nat.le_of_eq q105.symm))) all0)), (Nat.le_trans Kq102.1 (Nat.le_of_eq q105.symm)), fr_r_102, s111⟩
theorem dj32_0 : decode jc32 0 = .ok (.aload_n 0, 1) := by decide +kernel
theorem dj32_1 : decode jc32 1 = .ok (.invokevirtual 505, 3) := by decide +kernel
theorem dj32_4 : decode jc32 4 = .ok (.istore_n 3, 1) := by decide +kernel
theorem dj32_5 : decode jc32 5 = .ok (.iload_n 1, 1) := by decide +kernel
theorem dj32_6 : decode jc32 6 = .ok (.iload_n 2, 1) := by decide +kernel
theorem dj32_7 : decode jc32 7 = .ok (.iload_n 3, 1) := by decide +kernel
theorem dj32_8 : decode jc32 8 = .ok (.invokestatic 521, 3) := by decide +kernel
theorem dj32_11 : decode jc32 11 = .ok (.iload_n 1, 1) := by decide +kernel
theorem dj32_12 : decode jc32 12 = .ok (.ifCond .ne 10, 3) := by decide +kernel
theorem dj32_22 : decode jc32 22 = .ok (.iload_n 2, 1) := by decide +kernel
theorem dj32_23 : decode jc32 23 = .ok (.iload_n 1, 1) := by decide +kernel
theorem dj32_24 : decode jc32 24 = .ok (.isub, 1) := by decide +kernel
theorem dj32_25 : decode jc32 25 = .ok (.istore 4, 2) := by decide +kernel
theorem dj32_27 : decode jc32 27 = .ok (.aload_n 0, 1) := by decide +kernel
theorem dj32_28 : decode jc32 28 = .ok (.invokevirtual 492, 3) := by decide +kernel
theorem dj32_31 : decode jc32 31 = .ok (.ifCond .eq 16, 3) := by decide +kernel
theorem dj32_34 : decode jc32 34 = .ok (.aload_n 0, 1) := by decide +kernel
theorem dj32_35 : decode jc32 35 = .ok (.getfield 9, 3) := by decide +kernel
theorem dj32_38 : decode jc32 38 = .ok (.iload_n 1, 1) := by decide +kernel
theorem dj32_39 : decode jc32 39 = .ok (.iload 4, 2) := by decide +kernel
theorem dj32_41 : decode jc32 41 = .ok (.invokestatic 685, 3) := by decide +kernel
theorem dj32_44 : decode jc32 44 = .ok (.goto 13, 3) := by decide +kernel
theorem dj32_47 : decode jc32 47 = .ok (.aload_n 0, 1) := by decide +kernel
theorem dj32_48 : decode jc32 48 = .ok (.getfield 9, 3) := by decide +kernel
theorem dj32_51 : decode jc32 51 = .ok (.iload_n 1, 1) := by decide +kernel
theorem dj32_52 : decode jc32 52 = .ok (.iload 4, 2) := by decide +kernel
theorem dj32_54 : decode jc32 54 = .ok (.invokestatic 689, 3) := by decide +kernel
theorem dj32_57 : decode jc32 57 = .ok (.areturn, 1) := by decide +kernel
theorem pd_23 : parseMethodDescriptor "([BII)Ljava/lang/String;" = some ⟨[(.array .byte), .int, .int], some (.object "java/lang/String")⟩ := by decide +kernel
theorem ef_sub (mi : MethodId) (x : Addr) (cs : List Int32) (off : Nat) : entryFrame mi #[(.ref x), (.int (Int32.ofNat off)), (.int (Int32.ofNat cs.length))] 5 = mkF mi 0 #[.val (.ref x), .val (.int (Int32.ofNat off)), .val (.int (Int32.ofNat cs.length)), .unset, .unset] [] := rfl
def Q_sub (Z : State) (x t : Addr) (cs : List Int32) (off m : Nat) (zc : Int32) (fm : Value) (hE : Heap) (n0 : Nat) (vv : Option Value) (hh : Heap) (LL : List Loc) : Prop := ∃ y : Addr, ∃ u : Addr, (vv = some (.ref y)) ∧ (Fr n0 LL) ∧ (Keep hE hh []) ∧ (hE.size ≤ y) ∧ (hE.size ≤ u) ∧ (WStr Z hh y u (cs.drop off))
theorem rm_sub (hw : HW a0 Z) (ws : List Cond) (x t : Addr) (cs : List Int32) (off m : Nat) (zc : Int32) (fm : Value) (hE : Heap) (n0 : Nat) (O : Old Z n0 hE) (P0_ : WStr Z hE x t cs) (D0_ : Sta Z Z.heap c1_ c6_ "Z" (.int 1)) (D1_ : Sta Z Z.heap c1_ c9_ "I" (.int 0)) (D2_ : Sta Z Z.heap c1_ c10_ "I" (.int 8)) (D3_ : Sta Z Z.heap c0_ c8_ "Z" (.int zc)) (D4_ : Sta Z Z.heap c3_ c7_ c4_ fm) (ho : 0 < off) (hm0 : 0 < m) (he : off + m = cs.length) (h4 : cs.length ≤ 4) (hzc : ¬ (zc = (0 : Int32))) (hfm : fm.isRef = true) :
    MF la Z hE mn38 jc32 5 (some (.object c0_)) ws (rr 6 3 16 94) #[(.ref x), (.int (Int32.ofNat off)), (.int (Int32.ofNat cs.length))] (Q_sub Z x t cs off m zc fm hE n0) := by
  refine MetFree.of_bodySF (plainFor_of_name pn_java_lang_String) hisR ?_
  intro pg ev sb mi gs below me cd s₁ Bd hml0 hPt hKt
  obtain ⟨rfl, hZ, hh⟩ := hPt
  have hx := Bd.exec
  have hby := Bd.bytes
  have hml : cd.maxLocals = 5 := hml0
  have hown : sb.vm.findClass c0_ = some mi.cls := findClass_of_methodNamed Bd.named
  have X0 : Stand pg la ev (rr 6 3 16 94) sb mi #[(.ref x), (.int (Int32.ofNat off)), (.int (Int32.ofNat cs.length))] below me cd s₁ [] 0 0 := Stand.of_body Bd
  have eE : s₁.heap = hE := by rw [← hh, Bd.state]; rfl
  have N0 := Fr.nil n0
  have pre0 : ∀ tt, SP pg ev below (s₁.setTop (mkF mi 0 #[.val (.ref x), .val (.int (Int32.ofNat off)), .val (.int (Int32.ofNat cs.length)), .unset, .unset] [])) tt → SP pg ev below (s₁.setTop (entryFrame mi #[(.ref x), (.int (Int32.ofNat off)), (.int (Int32.ofNat cs.length))] 5)) tt := fun tt kk => castTop (ef_sub mi x cs off) kk
  obtain ⟨wE101, wV101, ⟨cd101, N2101, vs101, kb101, wC101, wK101, wc101⟩, wb101, wl101⟩ := id P0_
  rcases wc101 with ⟨rfl, rfl, rfl, hq101⟩ | ⟨rfl, rfl, rfl, hq101⟩
  · obtain ⟨cq102, kq102, q102a, q102b, q102c⟩ := isOf hZ eE wE101
    obtain ⟨v102, _, ⟨T102, L102, k102, n102⟩, -, X102, ⟨Lc102, hQ102, l102, y102, z102⟩, st102⟩ := X0.virtualBack hx (y := mn3) (z := mn3) hown (mvT hZ (wd50 hw)) (mvT hZ (wd51 hw)) (notFace_of_selects (args := #[]) (mvT hZ (wd53 hw))) (mvT hZ (wd53 hw)) (mvT hZ (wd52 hw)) (by decide) (backOf (W := 0) (rm_wlen la Z a0 hw [] x t cs zc hE n0 O P0_ D3_ (hzc : ¬ (zc = (0 : Int32)))) hZ (wd54 hw) (wd11 hw) (by decide) (by decide)) q102a q102c (g := (mkF mi 1 #[.val (.ref x), .val (.int (Int32.ofNat off)), .val (.int (Int32.ofNat cs.length)), .unset, .unset] [(.ref x)])) rfl (by rw [hml]; rfl) (Steps.refl _) (argsL := []) (rest := []) (lenOf pd_18 rfl) rfl (Nat.le_of_ble_eq_true rfl) (hb hby dj32_1) (fun _ _ => ⟨rfl, eE, (by decide : 0 + 0 ≤ _), (by decide : 0 + 0 ≤ _)⟩)
    dsimp only [Pt.U, Pt.locs, Pt.cells, Pt.slots] at X102 l102 y102 z102 st102 hQ102
    subst l102 y102 z102
    obtain ⟨rfl, Nq102, ek102⟩ := hQ102
    have N102 := Fr.app N0 Nq102
    obtain ⟨v103, _, ⟨T103, L103, k103, n103⟩, -, X103, ⟨Lc103, hQ103, l103, y103, z103⟩, st103⟩ := Jvm.LawKit.callS X102 hx (y := mn8) hown (mvT hZ (wd104 hw)) (mvT hZ (wd105 hw)) (mvT hZ (wd11 hw)) (mvT hZ (wd106 hw)) (by decide) (backOf (W := 0) (rm_cbe la Z a0 hw [] (Int32.ofNat off) (Int32.ofNat cs.length) (Int32.ofNat cs.length) fm hE n0 O D4_ (own_nn8 (by omega) : ¬ ((Int32.ofNat off) < (0 : Int32))) (fun q => absurd ((own_lt8 (a := cs.length) (b := off) (by omega) (by omega)).mp q) (by omega) : ¬ ((Int32.ofNat cs.length) < (Int32.ofNat off))) (by simp [Int32.lt_irrefl] : ¬ ((Int32.ofNat cs.length) < (Int32.ofNat cs.length))) (hfm : fm.isRef = true)) hZ (wd106 hw) (wd11 hw) (by decide) (by decide)) (g := (mkF mi 8 #[.val (.ref x), .val (.int (Int32.ofNat off)), .val (.int (Int32.ofNat cs.length)), .val (.int (Int32.ofNat cs.length)), .unset] [(.int (Int32.ofNat cs.length)), (.int (Int32.ofNat cs.length)), (.int (Int32.ofNat off))])) rfl (by rw [hml]; rfl) (argsL := [(.int (Int32.ofNat off)), (.int (Int32.ofNat cs.length)), (.int (Int32.ofNat cs.length))]) (rest := []) (lenOf pd_3 rfl) rfl (Nat.le_of_ble_eq_true rfl) (hb hby dj32_8) (fun _ _ => ⟨rfl, ek102, (by decide : 0 + 0 ≤ _), (by decide : 0 + 0 ≤ _)⟩)
    dsimp only [Pt.U, Pt.locs, Pt.cells, Pt.slots] at X103 l103 y103 z103 st103 hQ103
    subst l103 y103 z103
    obtain ⟨rfl, Nq103, ek103⟩ := hQ103
    have N103 := Fr.app N102 Nq103
    have pre104 : ∀ tt, SP pg ev below (T103.setTop (mkF mi 25 #[.val (.ref x), .val (.int (Int32.ofNat off)), .val (.int (Int32.ofNat cs.length)), .val (.int (Int32.ofNat cs.length)), .unset] [(.int ((Int32.ofNat cs.length) - (Int32.ofNat off)))])) tt → SP pg ev below (s₁.setTop (entryFrame mi #[(.ref x), (.int (Int32.ofNat off)), (.int (Int32.ofNat cs.length))] 5)) tt := fun tt kk => pre0 _ (by
      show SP pg ev below (s₁.setTop (mkF mi 0 #[.val (.ref x), .val (.int (Int32.ofNat off)), .val (.int (Int32.ofNat cs.length)), .unset, .unset] [])) _
      refine XS.aloadN X0.here hx rfl (hb hby dj32_0) rfl rfl ?_
      refine st102.trans ?_
      refine XS.istoreN X102.here hx rfl (hb hby dj32_4) rfl (l' := #[.val (.ref x), .val (.int (Int32.ofNat off)), .val (.int (Int32.ofNat cs.length)), .val (.int (Int32.ofNat cs.length)), .unset]) rfl ?_
      refine XS.iloadN X102.here hx rfl (hb hby dj32_5) rfl ?_
      refine XS.iloadN X102.here hx rfl (hb hby dj32_6) rfl ?_
      refine XS.iloadN X102.here hx rfl (hb hby dj32_7) rfl ?_
      refine st103 _ ?_
      refine XS.iloadN X103.here hx rfl (hb hby dj32_11) rfl ?_
      refine XS.ifYes X103.here hx rfl (pc0 := 12) (pc' := 22) rfl (hb hby dj32_12) rfl ((if0 _ _).trans (feq (fun q => absurd ((own_eq8 (a := off) (b := 0) (by omega) (by omega)).mp q) (by omega))).2) (by decide) (by decide) ?_
      refine XS.iloadN X103.here hx rfl (hb hby dj32_22) rfl ?_
      refine XS.iloadN X103.here hx rfl (hb hby dj32_23) rfl ?_
      refine XS.isub X103.here hx rfl (hb hby dj32_24) rfl ?_
      exact kk)
    have pre105 : ∀ tt, SP pg ev below (T103.setTop (mkF mi 25 #[.val (.ref x), .val (.int (Int32.ofNat off)), .val (.int (Int32.ofNat cs.length)), .val (.int (Int32.ofNat cs.length)), .unset] [(.int (Int32.ofNat m))])) tt → SP pg ev below (s₁.setTop (entryFrame mi #[(.ref x), (.int (Int32.ofNat off)), (.int (Int32.ofNat cs.length))] 5)) tt := fun tt kk => pre104 tt (by rw [show ((Int32.ofNat cs.length) - (Int32.ofNat off)) = (Int32.ofNat m) from by rw [own_sub32 (by omega)]; congr 1; omega]; exact kk)
    obtain ⟨cq106, kq106, q106a, q106b, q106c⟩ := isOf hZ ek103 wE101
    obtain ⟨v106, _, ⟨T106, L106, k106, n106⟩, -, X106, ⟨Lc106, hQ106, l106, y106, z106⟩, st106⟩ := X103.virtualBack hx (y := mn4) (z := mn4) hown (mvT hZ (wd44 hw)) (mvT hZ (wd45 hw)) (notFace_of_selects (args := #[]) (mvT hZ (wd47 hw))) (mvT hZ (wd47 hw)) (mvT hZ (wd46 hw)) (by decide) (backOf (W := 0) (rm_islA la Z a0 hw [] x zc hE n0 O wC101 D3_ (hzc : ¬ (zc = (0 : Int32)))) hZ (wd48 hw) (wd11 hw) (by decide) (by decide)) q106a q106c (g := (mkF mi 28 #[.val (.ref x), .val (.int (Int32.ofNat off)), .val (.int (Int32.ofNat cs.length)), .val (.int (Int32.ofNat cs.length)), .val (.int (Int32.ofNat m))] [(.ref x)])) rfl (by rw [hml]; rfl) (Steps.refl _) (argsL := []) (rest := []) (lenOf pd_17 rfl) rfl (Nat.le_of_ble_eq_true rfl) (hb hby dj32_28) (fun _ _ => ⟨rfl, ek103, (by decide : 0 + 0 ≤ _), (by decide : 0 + 0 ≤ _)⟩)
    dsimp only [Pt.U, Pt.locs, Pt.cells, Pt.slots] at X106 l106 y106 z106 st106 hQ106
    subst l106 y106 z106
    obtain ⟨rfl, Nq106, ek106⟩ := hQ106
    have N106 := Fr.app N103 Nq106
    obtain ⟨T107, X107, e107, st107⟩ := getF X106 hx hZ hown (host := "") (Or.inl (wd28 hw)) Via.refl ek106 wV101 (g := (mkF mi 35 #[.val (.ref x), .val (.int (Int32.ofNat off)), .val (.int (Int32.ofNat cs.length)), .val (.int (Int32.ofNat cs.length)), .val (.int (Int32.ofNat m))] [(.ref x)])) rfl rfl (hb hby dj32_35)
    obtain ⟨v108, _, ⟨T108, L108, k108, n108⟩, -, X108, ⟨Lc108, hQ108, l108, y108, z108⟩, st108⟩ := Jvm.LawKit.callS X107 hx (y := mn34) hown (mvT hZ (wd112 hw)) (mvT hZ (wd113 hw)) (mvT hZ (wd62 hw)) (mvT hZ (wd114 hw)) (by decide) (backOf (W := 0) (rm_lns la Z a0 hw [] t kb101 cs off m hE n0 O wK101 (ho : 0 < off) (hm0 : 0 < m) (he : off + m = cs.length) (h4 : cs.length ≤ 4) (hq101 : ∀ c ∈ cs, ¬ (255 : Int32) < c) (wb101 : ∀ c ∈ cs, ¬ c < 0 ∧ ¬ (65535 : Int32) < c)) hZ (wd114 hw) (wd62 hw) (by decide) (by decide)) (g := (mkF mi 41 #[.val (.ref x), .val (.int (Int32.ofNat off)), .val (.int (Int32.ofNat cs.length)), .val (.int (Int32.ofNat cs.length)), .val (.int (Int32.ofNat m))] [(.int (Int32.ofNat m)), (.int (Int32.ofNat off)), (.ref t)])) rfl (by rw [hml]; rfl) (argsL := [(.ref t), (.int (Int32.ofNat off)), (.int (Int32.ofNat m))]) (rest := []) (lenOf pd_23 rfl) rfl (Nat.le_of_ble_eq_true rfl) (hb hby dj32_41) (fun _ _ => ⟨rfl, e107, (by decide : 0 + 2 ≤ _), (by decide : 0 + 12 ≤ _)⟩)
    dsimp only [Pt.U, Pt.locs, Pt.cells, Pt.slots] at X108 l108 y108 z108 st108 hQ108
    subst l108 y108 z108
    obtain ⟨y_108, u_108, rfl, Nq108, Kq108, fr_y_108, fr_u_108, r108_0⟩ := hQ108
    have N108 := Fr.app N106 Nq108
    obtain ⟨fs, hr, hrun, hended, hW, hsame⟩ := X108.leave (v := some (.ref y_108)) (fun hq => by rw [Bd.returns] at hq; cases hq)
    refine ⟨_, _, pre105 _ ?_, hrun, hended, _, _, rfl, ?_, ⟨_, rfl⟩, hW, hsame.mono (by decide) (by decide)⟩
    · show SP pg ev below (T103.setTop (mkF mi 25 #[.val (.ref x), .val (.int (Int32.ofNat off)), .val (.int (Int32.ofNat cs.length)), .val (.int (Int32.ofNat cs.length)), .unset] [(.int (Int32.ofNat m))])) _
      refine XS.istore X103.here hx rfl (hb hby dj32_25) rfl (l' := #[.val (.ref x), .val (.int (Int32.ofNat off)), .val (.int (Int32.ofNat cs.length)), .val (.int (Int32.ofNat cs.length)), .val (.int (Int32.ofNat m))]) rfl ?_
      refine XS.aloadN X103.here hx rfl (hb hby dj32_27) rfl rfl ?_
      refine st106.trans ?_
      refine XS.ifNo X106.here hx rfl (hb hby dj32_31) rfl ((if0 _ _).trans (feq (by decide : ¬ ((1 : Int32) = (0 : Int32)))).1) ?_
      refine XS.aloadN X106.here hx rfl (hb hby dj32_34) rfl rfl ?_
      refine st107 _ ?_
      refine XS.iloadN X107.here hx rfl (hb hby dj32_38) rfl ?_
      refine XS.iload X107.here hx rfl (hb hby dj32_39) rfl ?_
      refine st108 _ ?_
      refine XS.goto X108.here hx rfl (pc0 := 44) (pc' := 57) rfl (hb hby dj32_44) (by decide) (by decide) ?_
      show SP pg ev below (T108.setTop (mkF mi 57 #[.val (.ref x), .val (.int (Int32.ofNat off)), .val (.int (Int32.ofNat cs.length)), .val (.int (Int32.ofNat cs.length)), .val (.int (Int32.ofNat m))] [(.ref y_108)])) _
      jvm_step X108.here [X108.here.top, hx, (hb hby dj32_57), X108.method', Bd.returns, Value.isRef, FieldType.isReference]
      first | (intro acts; rw [hr _ acts rfl rfl rfl]) | rw [hr _ _ rfl rfl rfl]
      exact Steps.refl _
    · show Q_sub Z x t cs off m zc fm hE n0 _ T108.heap _
      exact ⟨y_108, u_108, rfl, N108, ((Keep.refl hE []).trans Kq108 all0), fr_y_108, fr_u_108, r108_0⟩
  · obtain ⟨cq109, kq109, q109a, q109b, q109c⟩ := isOf hZ eE wE101
    obtain ⟨v109, _, ⟨T109, L109, k109, n109⟩, -, X109, ⟨Lc109, hQ109, l109, y109, z109⟩, st109⟩ := X0.virtualBack hx (y := mn3) (z := mn3) hown (mvT hZ (wd50 hw)) (mvT hZ (wd51 hw)) (notFace_of_selects (args := #[]) (mvT hZ (wd53 hw))) (mvT hZ (wd53 hw)) (mvT hZ (wd52 hw)) (by decide) (backOf (W := 0) (rm_wlen la Z a0 hw [] x t cs zc hE n0 O P0_ D3_ (hzc : ¬ (zc = (0 : Int32)))) hZ (wd54 hw) (wd11 hw) (by decide) (by decide)) q109a q109c (g := (mkF mi 1 #[.val (.ref x), .val (.int (Int32.ofNat off)), .val (.int (Int32.ofNat cs.length)), .unset, .unset] [(.ref x)])) rfl (by rw [hml]; rfl) (Steps.refl _) (argsL := []) (rest := []) (lenOf pd_18 rfl) rfl (Nat.le_of_ble_eq_true rfl) (hb hby dj32_1) (fun _ _ => ⟨rfl, eE, (by decide : 0 + 0 ≤ _), (by decide : 0 + 0 ≤ _)⟩)
    dsimp only [Pt.U, Pt.locs, Pt.cells, Pt.slots] at X109 l109 y109 z109 st109 hQ109
    subst l109 y109 z109
    obtain ⟨rfl, Nq109, ek109⟩ := hQ109
    have N109 := Fr.app N0 Nq109
    obtain ⟨v110, _, ⟨T110, L110, k110, n110⟩, -, X110, ⟨Lc110, hQ110, l110, y110, z110⟩, st110⟩ := Jvm.LawKit.callS X109 hx (y := mn8) hown (mvT hZ (wd104 hw)) (mvT hZ (wd105 hw)) (mvT hZ (wd11 hw)) (mvT hZ (wd106 hw)) (by decide) (backOf (W := 0) (rm_cbe la Z a0 hw [] (Int32.ofNat off) (Int32.ofNat cs.length) (Int32.ofNat cs.length) fm hE n0 O D4_ (own_nn8 (by omega) : ¬ ((Int32.ofNat off) < (0 : Int32))) (fun q => absurd ((own_lt8 (a := cs.length) (b := off) (by omega) (by omega)).mp q) (by omega) : ¬ ((Int32.ofNat cs.length) < (Int32.ofNat off))) (by simp [Int32.lt_irrefl] : ¬ ((Int32.ofNat cs.length) < (Int32.ofNat cs.length))) (hfm : fm.isRef = true)) hZ (wd106 hw) (wd11 hw) (by decide) (by decide)) (g := (mkF mi 8 #[.val (.ref x), .val (.int (Int32.ofNat off)), .val (.int (Int32.ofNat cs.length)), .val (.int (Int32.ofNat cs.length)), .unset] [(.int (Int32.ofNat cs.length)), (.int (Int32.ofNat cs.length)), (.int (Int32.ofNat off))])) rfl (by rw [hml]; rfl) (argsL := [(.int (Int32.ofNat off)), (.int (Int32.ofNat cs.length)), (.int (Int32.ofNat cs.length))]) (rest := []) (lenOf pd_3 rfl) rfl (Nat.le_of_ble_eq_true rfl) (hb hby dj32_8) (fun _ _ => ⟨rfl, ek109, (by decide : 0 + 0 ≤ _), (by decide : 0 + 0 ≤ _)⟩)
    dsimp only [Pt.U, Pt.locs, Pt.cells, Pt.slots] at X110 l110 y110 z110 st110 hQ110
    subst l110 y110 z110
    obtain ⟨rfl, Nq110, ek110⟩ := hQ110
    have N110 := Fr.app N109 Nq110
    have pre111 : ∀ tt, SP pg ev below (T110.setTop (mkF mi 25 #[.val (.ref x), .val (.int (Int32.ofNat off)), .val (.int (Int32.ofNat cs.length)), .val (.int (Int32.ofNat cs.length)), .unset] [(.int ((Int32.ofNat cs.length) - (Int32.ofNat off)))])) tt → SP pg ev below (s₁.setTop (entryFrame mi #[(.ref x), (.int (Int32.ofNat off)), (.int (Int32.ofNat cs.length))] 5)) tt := fun tt kk => pre0 _ (by
      show SP pg ev below (s₁.setTop (mkF mi 0 #[.val (.ref x), .val (.int (Int32.ofNat off)), .val (.int (Int32.ofNat cs.length)), .unset, .unset] [])) _
      refine XS.aloadN X0.here hx rfl (hb hby dj32_0) rfl rfl ?_
      refine st109.trans ?_
      refine XS.istoreN X109.here hx rfl (hb hby dj32_4) rfl (l' := #[.val (.ref x), .val (.int (Int32.ofNat off)), .val (.int (Int32.ofNat cs.length)), .val (.int (Int32.ofNat cs.length)), .unset]) rfl ?_
      refine XS.iloadN X109.here hx rfl (hb hby dj32_5) rfl ?_
      refine XS.iloadN X109.here hx rfl (hb hby dj32_6) rfl ?_
      refine XS.iloadN X109.here hx rfl (hb hby dj32_7) rfl ?_
      refine st110 _ ?_
      refine XS.iloadN X110.here hx rfl (hb hby dj32_11) rfl ?_
      refine XS.ifYes X110.here hx rfl (pc0 := 12) (pc' := 22) rfl (hb hby dj32_12) rfl ((if0 _ _).trans (feq (fun q => absurd ((own_eq8 (a := off) (b := 0) (by omega) (by omega)).mp q) (by omega))).2) (by decide) (by decide) ?_
      refine XS.iloadN X110.here hx rfl (hb hby dj32_22) rfl ?_
      refine XS.iloadN X110.here hx rfl (hb hby dj32_23) rfl ?_
      refine XS.isub X110.here hx rfl (hb hby dj32_24) rfl ?_
      exact kk)
    have pre112 : ∀ tt, SP pg ev below (T110.setTop (mkF mi 25 #[.val (.ref x), .val (.int (Int32.ofNat off)), .val (.int (Int32.ofNat cs.length)), .val (.int (Int32.ofNat cs.length)), .unset] [(.int (Int32.ofNat m))])) tt → SP pg ev below (s₁.setTop (entryFrame mi #[(.ref x), (.int (Int32.ofNat off)), (.int (Int32.ofNat cs.length))] 5)) tt := fun tt kk => pre111 tt (by rw [show ((Int32.ofNat cs.length) - (Int32.ofNat off)) = (Int32.ofNat m) from by rw [own_sub32 (by omega)]; congr 1; omega]; exact kk)
    obtain ⟨cq113, kq113, q113a, q113b, q113c⟩ := isOf hZ ek110 wE101
    obtain ⟨v113, _, ⟨T113, L113, k113, n113⟩, -, X113, ⟨Lc113, hQ113, l113, y113, z113⟩, st113⟩ := X110.virtualBack hx (y := mn4) (z := mn4) hown (mvT hZ (wd44 hw)) (mvT hZ (wd45 hw)) (notFace_of_selects (args := #[]) (mvT hZ (wd47 hw))) (mvT hZ (wd47 hw)) (mvT hZ (wd46 hw)) (by decide) (backOf (W := 0) (rm_islB la Z a0 hw [] x zc hE n0 O wC101 D3_ (hzc : ¬ (zc = (0 : Int32)))) hZ (wd48 hw) (wd11 hw) (by decide) (by decide)) q113a q113c (g := (mkF mi 28 #[.val (.ref x), .val (.int (Int32.ofNat off)), .val (.int (Int32.ofNat cs.length)), .val (.int (Int32.ofNat cs.length)), .val (.int (Int32.ofNat m))] [(.ref x)])) rfl (by rw [hml]; rfl) (Steps.refl _) (argsL := []) (rest := []) (lenOf pd_17 rfl) rfl (Nat.le_of_ble_eq_true rfl) (hb hby dj32_28) (fun _ _ => ⟨rfl, ek110, (by decide : 0 + 0 ≤ _), (by decide : 0 + 0 ≤ _)⟩)
    dsimp only [Pt.U, Pt.locs, Pt.cells, Pt.slots] at X113 l113 y113 z113 st113 hQ113
    subst l113 y113 z113
    obtain ⟨rfl, Nq113, ek113⟩ := hQ113
    have N113 := Fr.app N110 Nq113
    obtain ⟨T114, X114, e114, st114⟩ := getF X113 hx hZ hown (host := "") (Or.inl (wd28 hw)) Via.refl ek113 wV101 (g := (mkF mi 48 #[.val (.ref x), .val (.int (Int32.ofNat off)), .val (.int (Int32.ofNat cs.length)), .val (.int (Int32.ofNat cs.length)), .val (.int (Int32.ofNat m))] [(.ref x)])) rfl rfl (hb hby dj32_48)
    obtain ⟨v115, _, ⟨T115, L115, k115, n115⟩, -, X115, ⟨Lc115, hQ115, l115, y115, z115⟩, st115⟩ := Jvm.LawKit.callS X114 hx (y := mn37) hown (mvT hZ (wd188 hw)) (mvT hZ (wd189 hw)) (mvT hZ (wd83 hw)) (mvT hZ (wd190 hw)) (by decide) (backOf (W := 0) (rm_uns la Z a0 hw [] t kb101 cs off m zc fm hE n0 O wK101 D0_ D1_ D2_ D3_ D4_ (ho : 0 < off) (hm0 : 0 < m) (he : off + m = cs.length) (h4 : cs.length ≤ 4) (wb101 : ∀ c ∈ cs, ¬ c < 0 ∧ ¬ (65535 : Int32) < c) (hfm : fm.isRef = true) (hzc : ¬ (zc = (0 : Int32)))) hZ (wd190 hw) (wd83 hw) (by decide) (by decide)) (g := (mkF mi 54 #[.val (.ref x), .val (.int (Int32.ofNat off)), .val (.int (Int32.ofNat cs.length)), .val (.int (Int32.ofNat cs.length)), .val (.int (Int32.ofNat m))] [(.int (Int32.ofNat m)), (.int (Int32.ofNat off)), (.ref t)])) rfl (by rw [hml]; rfl) (argsL := [(.ref t), (.int (Int32.ofNat off)), (.int (Int32.ofNat m))]) (rest := []) (lenOf pd_23 rfl) rfl (Nat.le_of_ble_eq_true rfl) (hb hby dj32_54) (fun _ _ => ⟨rfl, e114, (by decide : 0 + 3 ≤ _), (by decide : 0 + 16 ≤ _)⟩)
    dsimp only [Pt.U, Pt.locs, Pt.cells, Pt.slots] at X115 l115 y115 z115 st115 hQ115
    subst l115 y115 z115
    obtain ⟨y_115, u_115, rfl, Nq115, Kq115, fr_y_115, fr_u_115, r115_0⟩ := hQ115
    have N115 := Fr.app N113 Nq115
    obtain ⟨fs, hr, hrun, hended, hW, hsame⟩ := X115.leave (v := some (.ref y_115)) (fun hq => by rw [Bd.returns] at hq; cases hq)
    refine ⟨_, _, pre112 _ ?_, hrun, hended, _, _, rfl, ?_, ⟨_, rfl⟩, hW, hsame.mono (by decide) (by decide)⟩
    · show SP pg ev below (T110.setTop (mkF mi 25 #[.val (.ref x), .val (.int (Int32.ofNat off)), .val (.int (Int32.ofNat cs.length)), .val (.int (Int32.ofNat cs.length)), .unset] [(.int (Int32.ofNat m))])) _
      refine XS.istore X110.here hx rfl (hb hby dj32_25) rfl (l' := #[.val (.ref x), .val (.int (Int32.ofNat off)), .val (.int (Int32.ofNat cs.length)), .val (.int (Int32.ofNat cs.length)), .val (.int (Int32.ofNat m))]) rfl ?_
      refine XS.aloadN X110.here hx rfl (hb hby dj32_27) rfl rfl ?_
      refine st113.trans ?_
      refine XS.ifYes X113.here hx rfl (pc0 := 31) (pc' := 47) rfl (hb hby dj32_31) rfl ((if0 _ _).trans (teq (rfl : (0 : Int32) = (0 : Int32))).1) (by decide) (by decide) ?_
      refine XS.aloadN X113.here hx rfl (hb hby dj32_47) rfl rfl ?_
      refine st114 _ ?_
      refine XS.iloadN X114.here hx rfl (hb hby dj32_51) rfl ?_
      refine XS.iload X114.here hx rfl (hb hby dj32_52) rfl ?_
      refine st115 _ ?_
      show SP pg ev below (T115.setTop (mkF mi 57 #[.val (.ref x), .val (.int (Int32.ofNat off)), .val (.int (Int32.ofNat cs.length)), .val (.int (Int32.ofNat cs.length)), .val (.int (Int32.ofNat m))] [(.ref y_115)])) _
      jvm_step X115.here [X115.here.top, hx, (hb hby dj32_57), X115.method', Bd.returns, Value.isRef, FieldType.isReference]
      first | (intro acts; rw [hr _ acts rfl rfl rfl]) | rw [hr _ _ rfl rfl rfl]
      exact Steps.refl _
    · show Q_sub Z x t cs off m zc fm hE n0 _ T115.heap _
      exact ⟨y_115, u_115, rfl, N115, ((Keep.refl hE []).trans Kq115 all0), fr_y_115, fr_u_115, r115_0⟩
theorem dj33_0 : decode jc33 0 = .ok (.aload_n 0, 1) := by decide +kernel
theorem dj33_1 : decode jc33 1 = .ok (.iload_n 1, 1) := by decide +kernel
theorem dj33_2 : decode jc33 2 = .ok (.aload_n 0, 1) := by decide +kernel
theorem dj33_3 : decode jc33 3 = .ok (.invokevirtual 505, 3) := by decide +kernel
theorem dj33_6 : decode jc33 6 = .ok (.invokevirtual 681, 3) := by decide +kernel
theorem dj33_9 : decode jc33 9 = .ok (.areturn, 1) := by decide +kernel
theorem pd_24 : parseMethodDescriptor "(II)Ljava/lang/String;" = some ⟨[.int, .int], some (.object "java/lang/String")⟩ := by decide +kernel
theorem ef_sbi (mi : MethodId) (x : Addr) (off : Nat) : entryFrame mi #[(.ref x), (.int (Int32.ofNat off))] 2 = mkF mi 0 #[.val (.ref x), .val (.int (Int32.ofNat off))] [] := rfl
def Q_sbi (Z : State) (x t : Addr) (cs : List Int32) (off m : Nat) (zc : Int32) (fm : Value) (hE : Heap) (n0 : Nat) (vv : Option Value) (hh : Heap) (LL : List Loc) : Prop := ∃ y : Addr, ∃ u : Addr, (vv = some (.ref y)) ∧ (Fr n0 LL) ∧ (Keep hE hh []) ∧ (hE.size ≤ y) ∧ (hE.size ≤ u) ∧ (WStr Z hh y u (cs.drop off))
theorem rm_sbi (hw : HW a0 Z) (ws : List Cond) (x t : Addr) (cs : List Int32) (off m : Nat) (zc : Int32) (fm : Value) (hE : Heap) (n0 : Nat) (O : Old Z n0 hE) (P0_ : WStr Z hE x t cs) (D0_ : Sta Z Z.heap c1_ c6_ "Z" (.int 1)) (D1_ : Sta Z Z.heap c1_ c9_ "I" (.int 0)) (D2_ : Sta Z Z.heap c1_ c10_ "I" (.int 8)) (D3_ : Sta Z Z.heap c0_ c8_ "Z" (.int zc)) (D4_ : Sta Z Z.heap c3_ c7_ c4_ fm) (ho : 0 < off) (hm0 : 0 < m) (he : off + m = cs.length) (h4 : cs.length ≤ 4) (hzc : ¬ (zc = (0 : Int32))) (hfm : fm.isRef = true) :
    MF la Z hE mn39 jc33 2 (some (.object c0_)) ws (rr 7 3 16 110) #[(.ref x), (.int (Int32.ofNat off))] (Q_sbi Z x t cs off m zc fm hE n0) := by
  refine MetFree.of_bodySF (plainFor_of_name pn_java_lang_String) hisR ?_
  intro pg ev sb mi gs below me cd s₁ Bd hml0 hPt hKt
  obtain ⟨rfl, hZ, hh⟩ := hPt
  have hx := Bd.exec
  have hby := Bd.bytes
  have hml : cd.maxLocals = 2 := hml0
  have hown : sb.vm.findClass c0_ = some mi.cls := findClass_of_methodNamed Bd.named
  have X0 : Stand pg la ev (rr 7 3 16 110) sb mi #[(.ref x), (.int (Int32.ofNat off))] below me cd s₁ [] 0 0 := Stand.of_body Bd
  have eE : s₁.heap = hE := by rw [← hh, Bd.state]; rfl
  have N0 := Fr.nil n0
  have pre0 : ∀ tt, SP pg ev below (s₁.setTop (mkF mi 0 #[.val (.ref x), .val (.int (Int32.ofNat off))] [])) tt → SP pg ev below (s₁.setTop (entryFrame mi #[(.ref x), (.int (Int32.ofNat off))] 2)) tt := fun tt kk => castTop (ef_sbi mi x off) kk
  obtain ⟨cq101, kq101, q101a, q101b, q101c⟩ := isOf hZ eE (P0_).1
  obtain ⟨v101, _, ⟨T101, L101, k101, n101⟩, -, X101, ⟨Lc101, hQ101, l101, y101, z101⟩, st101⟩ := X0.virtualBack hx (y := mn3) (z := mn3) hown (mvT hZ (wd50 hw)) (mvT hZ (wd51 hw)) (notFace_of_selects (args := #[]) (mvT hZ (wd53 hw))) (mvT hZ (wd53 hw)) (mvT hZ (wd52 hw)) (by decide) (backOf (W := 2) (rm_wlen la Z a0 hw [] x t cs zc hE n0 O P0_ D3_ (hzc : ¬ (zc = (0 : Int32)))) hZ (wd54 hw) (wd11 hw) (by decide) (by decide)) q101a q101c (g := (mkF mi 3 #[.val (.ref x), .val (.int (Int32.ofNat off))] [(.ref x), (.int (Int32.ofNat off)), (.ref x)])) rfl (by rw [hml]; rfl) (Steps.refl _) (argsL := []) (rest := [(.int (Int32.ofNat off)), (.ref x)]) (lenOf pd_18 rfl) rfl (Nat.le_of_ble_eq_true rfl) (hb hby dj33_3) (fun _ _ => ⟨rfl, eE, (by decide : 0 + 0 ≤ _), (by decide : 0 + 0 ≤ _)⟩)
  dsimp only [Pt.U, Pt.locs, Pt.cells, Pt.slots] at X101 l101 y101 z101 st101 hQ101
  subst l101 y101 z101
  obtain ⟨rfl, Nq101, ek101⟩ := hQ101
  have N101 := Fr.app N0 Nq101
  obtain ⟨cq102, kq102, q102a, q102b, q102c⟩ := isOf hZ ek101 (P0_).1
  obtain ⟨v102, _, ⟨T102, L102, k102, n102⟩, -, X102, ⟨Lc102, hQ102, l102, y102, z102⟩, st102⟩ := X101.virtualBack hx (y := mn38) (z := mn38) hown (mvT hZ (wd99 hw)) (mvT hZ (wd100 hw)) (notFace_of_selects (args := #[]) (mvT hZ (wd102 hw))) (mvT hZ (wd102 hw)) (mvT hZ (wd101 hw)) (by decide) (backOf (W := 0) (rm_sub la Z a0 hw [] x t cs off m zc fm hE n0 O P0_ D0_ D1_ D2_ D3_ D4_ (ho : 0 < off) (hm0 : 0 < m) (he : off + m = cs.length) (h4 : cs.length ≤ 4) (hzc : ¬ (zc = (0 : Int32))) (hfm : fm.isRef = true)) hZ (wd103 hw) (wd11 hw) (by decide) (by decide)) q102a q102c (g := (mkF mi 6 #[.val (.ref x), .val (.int (Int32.ofNat off))] [(.int (Int32.ofNat cs.length)), (.int (Int32.ofNat off)), (.ref x)])) rfl (by rw [hml]; rfl) (Steps.refl _) (argsL := [(.int (Int32.ofNat off)), (.int (Int32.ofNat cs.length))]) (rest := []) (lenOf pd_24 rfl) rfl (Nat.le_of_ble_eq_true rfl) (hb hby dj33_6) (fun _ _ => ⟨rfl, ek101, (by decide : 0 + 3 ≤ _), (by decide : 0 + 16 ≤ _)⟩)
  dsimp only [Pt.U, Pt.locs, Pt.cells, Pt.slots] at X102 l102 y102 z102 st102 hQ102
  subst l102 y102 z102
  obtain ⟨y_102, u_102, rfl, Nq102, Kq102, fr_y_102, fr_u_102, r102_0⟩ := hQ102
  have N102 := Fr.app N101 Nq102
  obtain ⟨fs, hr, hrun, hended, hW, hsame⟩ := X102.leave (v := some (.ref y_102)) (fun hq => by rw [Bd.returns] at hq; cases hq)
  refine ⟨_, _, pre0 _ ?_, hrun, hended, _, _, rfl, ?_, ⟨_, rfl⟩, hW, hsame.mono (by decide) (by decide)⟩
  · show SP pg ev below (s₁.setTop (mkF mi 0 #[.val (.ref x), .val (.int (Int32.ofNat off))] [])) _
    refine XS.aloadN X0.here hx rfl (hb hby dj33_0) rfl rfl ?_
    refine XS.iloadN X0.here hx rfl (hb hby dj33_1) rfl ?_
    refine XS.aloadN X0.here hx rfl (hb hby dj33_2) rfl rfl ?_
    refine st101.trans ?_
    refine st102.trans ?_
    show SP pg ev below (T102.setTop (mkF mi 9 #[.val (.ref x), .val (.int (Int32.ofNat off))] [(.ref y_102)])) _
    jvm_step X102.here [X102.here.top, hx, (hb hby dj33_9), X102.method', Bd.returns, Value.isRef, FieldType.isReference]
    first | (intro acts; rw [hr _ acts rfl rfl rfl]) | rw [hr _ _ rfl rfl rfl]
    exact Steps.refl _
  · show Q_sbi Z x t cs off m zc fm hE n0 _ T102.heap _
    exact ⟨y_102, u_102, rfl, N102, ((Keep.refl hE []).trans Kq102 all0), fr_y_102, fr_u_102, r102_0⟩
theorem dj28_4 : decode jc28 4 = .ok (.ldc 151, 2) := by decide +kernel
theorem dj28_6 : decode jc28 6 = .ok (.areturn, 1) := by decide +kernel
theorem ef_lns0 (mi : MethodId) (t : Addr) (j : Int32) : entryFrame mi #[(.ref t), (.int j), (.int 0)] 3 = mkF mi 0 #[.val (.ref t), .val (.int j), .val (.int 0)] [] := rfl
def Q_lns0 (Z : State) (t : Addr) (j : Int32) (hE : Heap) (n0 : Nat) (vv : Option Value) (hh : Heap) (LL : List Loc) : Prop := ∃ y : Addr, ∃ u : Addr, (vv = some (.ref y)) ∧ (Fr n0 LL) ∧ (Keep hE hh []) ∧ (WStr Z hh y u ([] : List Int32))
theorem rm_lns0 (hw : HW a0 Z) (ws : List Cond) (t : Addr) (j : Int32) (hE : Heap) (n0 : Nat) (O : Old Z n0 hE) :
    MW la Z hE mn34 jc28 3 (some (.object c0_)) ws (rr 0 2 4 0) #[(.ref t), (.int j), (.int 0)] (Q_lns0 Z t j hE n0) := by
  refine MetFree.of_bodySF (plainFor_of_name pn_java_lang_StringLatin1) hisR ?_
  intro pg ev sb mi gs below me cd s₁ Bd hml0 hPt hKt
  obtain ⟨rfl, hZ, hh, hH⟩ := hPt
  have hx := Bd.exec
  have hby := Bd.bytes
  have hml : cd.maxLocals = 3 := hml0
  have hown : sb.vm.findClass c5_ = some mi.cls := findClass_of_methodNamed Bd.named
  have X0 : Stand pg la ev (rr 0 2 4 0) (sb.setVm sb.vm) mi #[(.ref t), (.int j), (.int 0)] below me cd s₁ [] 0 0 := Stand.of_body Bd
  have eE : s₁.heap = hE := by rw [← hh, Bd.state]; rfl
  have N0 := Fr.nil n0
  have pre0 : ∀ tt, SP pg ev below (s₁.setTop (mkF mi 0 #[.val (.ref t), .val (.int j), .val (.int 0)] [])) tt → SP pg ev below (s₁.setTop (entryFrame mi #[(.ref t), (.int j), (.int 0)] 3)) tt := fun tt kk => castTop (ef_lns0 mi t j) kk
  have hS : sb.Since sb.vm 0 := (State.WarmedH.refl sb).since 0
  have hk : 0 ≤ hE.size := Nat.zero_le _
  have hEL := own_EW hw
  have C0 := CHr.refl hH
  obtain ⟨a101, T101, h101, k101, d101, kc101, X101, e101, E101, hS, hk, hZ, hown, lE101, lC101, lV101, lA101, -, -, c101, -, hne101, st101⟩ := ldcCH X0 hx hZ hown (wd148 hw) (own_wS hw) eE hS hk hEL (by decide +kernel) C0.1 (vs := ([] : List Int32).map fun c => Value.int c.toInt8.toInt32) (z := Int32.ofNat ([] : List Int32).length) (by decide +kernel) (by decide) (by decide) (g := (mkF mi 4 #[.val (.ref t), .val (.int j), .val (.int 0)] [])) rfl (hb hby dj28_4) (n := 0) (by decide) (by decide) (by decide) (by decide)
  have C102 := CHr.trans C0 c101
  have s103 : LStr Z h101 a101 d101 ([] : List Int32) := ⟨lE101, lV101, lC101, ⟨_, lA101⟩, (by decide), (by decide)⟩
  have s104 : WStr Z h101 a101 d101 ([] : List Int32) := by obtain ⟨a, b, c, ⟨kb, d⟩, e, l⟩ := s103; exact ⟨a, b, ⟨0, _, _, kb, c, d, Or.inl ⟨rfl, rfl, rfl, (fun _ h => nomatch h)⟩⟩, (fun _ h => nomatch h), l⟩
  obtain ⟨fs, hr, hrun, hended, hWe⟩ := X101.leaveW hS (show _ ≤ T101.heap.size by rw [e101]; exact hk) (v := some (.ref a101)) (fun hq => by rw [Bd.returns] at hq; cases hq)
  refine ⟨_, _, pre0 _ ?_, hrun, hended, _, _, rfl, ?_, ?_, hWe.1, hWe.2.1, hWe.2.2.1, hWe.2.2.2.mono (by decide) (by decide)⟩
  · show SP pg ev below (s₁.setTop (mkF mi 0 #[.val (.ref t), .val (.int j), .val (.int 0)] [])) _
    refine XS.iloadN X0.here hx rfl (hb hby dj28_0) rfl ?_
    refine XS.ifNo X0.here hx rfl (hb hby dj28_1) rfl ((if0 _ _).trans (teq (rfl : (0 : Int32) = (0 : Int32))).2) ?_
    refine st101 _ ?_
    show SP pg ev below (T101.setTop (mkF mi 6 #[.val (.ref t), .val (.int j), .val (.int 0)] [(.ref a101)])) _
    jvm_step X101.here [X101.here.top, hx, (hb hby dj28_6), X101.method', Bd.returns, Value.isRef, FieldType.isReference]
    first | (intro acts; rw [hr _ acts rfl rfl rfl]) | rw [hr _ _ rfl rfl rfl]
    exact Steps.refl _
  · show Q_lns0 Z t j hE n0 _ T101.heap _
    rw [e101]
    exact ⟨a101, d101, rfl, N0, ((Keep.refl hE []).ext E101), s104⟩
  · show CHr Z ELs sb.vm sb.heap T101.vm T101.heap
    rw [hh, e101]
    exact CHr.trans C102 (CHv.at X101 hZ hEL C102.1)
theorem dj31_4 : decode jc31 4 = .ok (.ldc_w 295, 3) := by decide +kernel
theorem dj31_7 : decode jc31 7 = .ok (.areturn, 1) := by decide +kernel
theorem ef_uns0 (mi : MethodId) (t : Addr) (j : Int32) : entryFrame mi #[(.ref t), (.int j), (.int 0)] 5 = mkF mi 0 #[.val (.ref t), .val (.int j), .val (.int 0), .unset, .unset] [] := rfl
def Q_uns0 (Z : State) (t : Addr) (j : Int32) (hE : Heap) (n0 : Nat) (vv : Option Value) (hh : Heap) (LL : List Loc) : Prop := ∃ y : Addr, ∃ u : Addr, (vv = some (.ref y)) ∧ (Fr n0 LL) ∧ (Keep hE hh []) ∧ (WStr Z hh y u ([] : List Int32))
theorem rm_uns0 (hw : HW a0 Z) (ws : List Cond) (t : Addr) (j : Int32) (hE : Heap) (n0 : Nat) (O : Old Z n0 hE) :
    MW la Z hE mn37 jc31 5 (some (.object c0_)) ws (rr 0 2 4 0) #[(.ref t), (.int j), (.int 0)] (Q_uns0 Z t j hE n0) := by
  refine MetFree.of_bodySF (plainFor_of_name pn_java_lang_StringUTF16) hisR ?_
  intro pg ev sb mi gs below me cd s₁ Bd hml0 hPt hKt
  obtain ⟨rfl, hZ, hh, hH⟩ := hPt
  have hx := Bd.exec
  have hby := Bd.bytes
  have hml : cd.maxLocals = 5 := hml0
  have hown : sb.vm.findClass c1_ = some mi.cls := findClass_of_methodNamed Bd.named
  have X0 : Stand pg la ev (rr 0 2 4 0) (sb.setVm sb.vm) mi #[(.ref t), (.int j), (.int 0)] below me cd s₁ [] 0 0 := Stand.of_body Bd
  have eE : s₁.heap = hE := by rw [← hh, Bd.state]; rfl
  have N0 := Fr.nil n0
  have pre0 : ∀ tt, SP pg ev below (s₁.setTop (mkF mi 0 #[.val (.ref t), .val (.int j), .val (.int 0), .unset, .unset] [])) tt → SP pg ev below (s₁.setTop (entryFrame mi #[(.ref t), (.int j), (.int 0)] 5)) tt := fun tt kk => castTop (ef_uns0 mi t j) kk
  have hS : sb.Since sb.vm 0 := (State.WarmedH.refl sb).since 0
  have hk : 0 ≤ hE.size := Nat.zero_le _
  have hEL := own_EW hw
  have C0 := CHr.refl hH
  obtain ⟨a101, T101, h101, k101, X101, e101, E101, hS, hk, hZ, hown, c101, lt101, st101⟩ := own_ldcw X0 hx hZ hown (wd191 hw) (own_wS hw) eE hS hk hEL C0.1 (g := (mkF mi 4 #[.val (.ref t), .val (.int j), .val (.int 0), .unset, .unset] [])) rfl (hb hby dj31_4) (n := 0) (by decide) (by decide) (by decide) (by decide)
  obtain ⟨d101, kc101, lE101, lC101, lV101, lA101⟩ := own_litRead hZ hown (wd191 hw) (by decide +kernel) c101.1 lt101 (vs := ([] : List Int32).map fun c => Value.int c.toInt8.toInt32) (z := Int32.ofNat ([] : List Int32).length) (by decide +kernel) (by decide) (by decide)
  have C102 := CHr.trans C0 c101
  have s103 : LStr Z h101 a101 d101 ([] : List Int32) := ⟨lE101, lV101, lC101, ⟨_, lA101⟩, (by decide), (by decide)⟩
  have s104 : WStr Z h101 a101 d101 ([] : List Int32) := by obtain ⟨a, b, c, ⟨kb, d⟩, e, l⟩ := s103; exact ⟨a, b, ⟨0, _, _, kb, c, d, Or.inl ⟨rfl, rfl, rfl, (fun _ h => nomatch h)⟩⟩, (fun _ h => nomatch h), l⟩
  obtain ⟨fs, hr, hrun, hended, hWe⟩ := X101.leaveW hS (show _ ≤ T101.heap.size by rw [e101]; exact hk) (v := some (.ref a101)) (fun hq => by rw [Bd.returns] at hq; cases hq)
  refine ⟨_, _, pre0 _ ?_, hrun, hended, _, _, rfl, ?_, ?_, hWe.1, hWe.2.1, hWe.2.2.1, hWe.2.2.2.mono (by decide) (by decide)⟩
  · show SP pg ev below (s₁.setTop (mkF mi 0 #[.val (.ref t), .val (.int j), .val (.int 0), .unset, .unset] [])) _
    refine XS.iloadN X0.here hx rfl (hb hby dj31_0) rfl ?_
    refine XS.ifNo X0.here hx rfl (hb hby dj31_1) rfl ((if0 _ _).trans (teq (rfl : (0 : Int32) = (0 : Int32))).2) ?_
    refine st101 _ ?_
    show SP pg ev below (T101.setTop (mkF mi 7 #[.val (.ref t), .val (.int j), .val (.int 0), .unset, .unset] [(.ref a101)])) _
    jvm_step X101.here [X101.here.top, hx, (hb hby dj31_7), X101.method', Bd.returns, Value.isRef, FieldType.isReference]
    first | (intro acts; rw [hr _ acts rfl rfl rfl]) | rw [hr _ _ rfl rfl rfl]
    exact Steps.refl _
  · show Q_uns0 Z t j hE n0 _ T101.heap _
    rw [e101]
    exact ⟨a101, d101, rfl, N0, ((Keep.refl hE []).ext E101), s104⟩
  · show CHr Z ELs sb.vm sb.heap T101.vm T101.heap
    rw [hh, e101]
    exact CHr.trans C102 (CHv.at X101 hZ hEL C102.1)
theorem ef_sub0 (mi : MethodId) (x : Addr) (cs : List Int32) : entryFrame mi #[(.ref x), (.int (Int32.ofNat cs.length)), (.int (Int32.ofNat cs.length))] 5 = mkF mi 0 #[.val (.ref x), .val (.int (Int32.ofNat cs.length)), .val (.int (Int32.ofNat cs.length)), .unset, .unset] [] := rfl
def Q_sub0 (Z : State) (x t : Addr) (cs : List Int32) (zc : Int32) (fm : Value) (hE : Heap) (n0 : Nat) (vv : Option Value) (hh : Heap) (LL : List Loc) : Prop := ∃ y : Addr, ∃ u : Addr, (vv = some (.ref y)) ∧ (Fr n0 LL) ∧ (Keep hE hh []) ∧ (WStr Z hh y u ([] : List Int32))
theorem rm_sub0 (hw : HW a0 Z) (ws : List Cond) (x t : Addr) (cs : List Int32) (zc : Int32) (fm : Value) (hE : Heap) (n0 : Nat) (O : Old Z n0 hE) (P0_ : WStr Z hE x t cs) (D0_ : Sta Z Z.heap c0_ c8_ "Z" (.int zc)) (D1_ : Sta Z Z.heap c3_ c7_ c4_ fm) (h0 : 0 < cs.length) (h4 : cs.length ≤ 4) (hzc : ¬ (zc = (0 : Int32))) (hfm : fm.isRef = true) :
    MW la Z hE mn38 jc32 5 (some (.object c0_)) ws (rr 2 2 4 29) #[(.ref x), (.int (Int32.ofNat cs.length)), (.int (Int32.ofNat cs.length))] (Q_sub0 Z x t cs zc fm hE n0) := by
  refine MetFree.of_bodySF (plainFor_of_name pn_java_lang_String) hisR ?_
  intro pg ev sb mi gs below me cd s₁ Bd hml0 hPt hKt
  obtain ⟨rfl, hZ, hh, hH⟩ := hPt
  have hx := Bd.exec
  have hby := Bd.bytes
  have hml : cd.maxLocals = 5 := hml0
  have hown : sb.vm.findClass c0_ = some mi.cls := findClass_of_methodNamed Bd.named
  have X0 : Stand pg la ev (rr 2 2 4 29) (sb.setVm sb.vm) mi #[(.ref x), (.int (Int32.ofNat cs.length)), (.int (Int32.ofNat cs.length))] below me cd s₁ [] 0 0 := Stand.of_body Bd
  have eE : s₁.heap = hE := by rw [← hh, Bd.state]; rfl
  have N0 := Fr.nil n0
  have pre0 : ∀ tt, SP pg ev below (s₁.setTop (mkF mi 0 #[.val (.ref x), .val (.int (Int32.ofNat cs.length)), .val (.int (Int32.ofNat cs.length)), .unset, .unset] [])) tt → SP pg ev below (s₁.setTop (entryFrame mi #[(.ref x), (.int (Int32.ofNat cs.length)), (.int (Int32.ofNat cs.length))] 5)) tt := fun tt kk => castTop (ef_sub0 mi x cs) kk
  have hS : sb.Since sb.vm 0 := (State.WarmedH.refl sb).since 0
  have hk : 0 ≤ hE.size := Nat.zero_le _
  have hEL := own_EW hw
  have C0 := CHr.refl hH
  obtain ⟨wE101, wV101, ⟨cd101, N2101, vs101, kb101, wC101, wK101, wc101⟩, wb101, wl101⟩ := id P0_
  rcases wc101 with ⟨rfl, rfl, rfl, hq101⟩ | ⟨rfl, rfl, rfl, hq101⟩
  · obtain ⟨cq102, kq102, q102a, q102b, q102c⟩ := isOf hZ eE wE101
    obtain ⟨v102, _, ⟨T102, L102, k102, n102⟩, -, X102, ⟨Lc102, hQ102, l102, y102, z102⟩, st102⟩ := X0.virtualBack hx (y := mn3) (z := mn3) hown (mvT hZ (wd50 hw)) (mvT hZ (wd51 hw)) (notFace_of_selects (args := #[]) (mvT hZ (wd53 hw))) (mvT hZ (wd53 hw)) (mvT hZ (wd52 hw)) (by decide) (backOf (W := 0) (rm_wlen la Z a0 hw [] x t cs zc hE n0 O P0_ D0_ (hzc : ¬ (zc = (0 : Int32)))) hZ (wd54 hw) (wd11 hw) (by decide) (by decide)) q102a q102c (g := (mkF mi 1 #[.val (.ref x), .val (.int (Int32.ofNat cs.length)), .val (.int (Int32.ofNat cs.length)), .unset, .unset] [(.ref x)])) rfl (by rw [hml]; rfl) (Steps.refl _) (argsL := []) (rest := []) (lenOf pd_18 rfl) rfl (Nat.le_of_ble_eq_true rfl) (hb hby dj32_1) (fun _ _ => ⟨rfl, eE, (by decide : 0 + 0 ≤ _), (by decide : 0 + 0 ≤ _)⟩)
    dsimp only [Pt.U, Pt.locs, Pt.cells, Pt.slots] at X102 l102 y102 z102 st102 hQ102
    subst l102 y102 z102
    obtain ⟨rfl, Nq102, ek102⟩ := hQ102
    have N102 := Fr.app N0 Nq102
    obtain ⟨v103, _, ⟨T103, L103, k103, n103⟩, -, X103, ⟨Lc103, hQ103, l103, y103, z103⟩, st103⟩ := Jvm.LawKit.callS X102 hx (y := mn8) hown (mvT hZ (wd104 hw)) (mvT hZ (wd105 hw)) (mvT hZ (wd11 hw)) (mvT hZ (wd106 hw)) (by decide) (backOf (W := 0) (rm_cbe la Z a0 hw [] (Int32.ofNat cs.length) (Int32.ofNat cs.length) (Int32.ofNat cs.length) fm hE n0 O D1_ (own_nn8 (by omega) : ¬ ((Int32.ofNat cs.length) < (0 : Int32))) (by simp [Int32.lt_irrefl] : ¬ ((Int32.ofNat cs.length) < (Int32.ofNat cs.length))) (by simp [Int32.lt_irrefl] : ¬ ((Int32.ofNat cs.length) < (Int32.ofNat cs.length))) (hfm : fm.isRef = true)) hZ (wd106 hw) (wd11 hw) (by decide) (by decide)) (g := (mkF mi 8 #[.val (.ref x), .val (.int (Int32.ofNat cs.length)), .val (.int (Int32.ofNat cs.length)), .val (.int (Int32.ofNat cs.length)), .unset] [(.int (Int32.ofNat cs.length)), (.int (Int32.ofNat cs.length)), (.int (Int32.ofNat cs.length))])) rfl (by rw [hml]; rfl) (argsL := [(.int (Int32.ofNat cs.length)), (.int (Int32.ofNat cs.length)), (.int (Int32.ofNat cs.length))]) (rest := []) (lenOf pd_3 rfl) rfl (Nat.le_of_ble_eq_true rfl) (hb hby dj32_8) (fun _ _ => ⟨rfl, ek102, (by decide : 0 + 0 ≤ _), (by decide : 0 + 0 ≤ _)⟩)
    dsimp only [Pt.U, Pt.locs, Pt.cells, Pt.slots] at X103 l103 y103 z103 st103 hQ103
    subst l103 y103 z103
    obtain ⟨rfl, Nq103, ek103⟩ := hQ103
    have N103 := Fr.app N102 Nq103
    have pre104 : ∀ tt, SP pg ev below (T103.setTop (mkF mi 25 #[.val (.ref x), .val (.int (Int32.ofNat cs.length)), .val (.int (Int32.ofNat cs.length)), .val (.int (Int32.ofNat cs.length)), .unset] [(.int ((Int32.ofNat cs.length) - (Int32.ofNat cs.length)))])) tt → SP pg ev below (s₁.setTop (entryFrame mi #[(.ref x), (.int (Int32.ofNat cs.length)), (.int (Int32.ofNat cs.length))] 5)) tt := fun tt kk => pre0 _ (by
      show SP pg ev below (s₁.setTop (mkF mi 0 #[.val (.ref x), .val (.int (Int32.ofNat cs.length)), .val (.int (Int32.ofNat cs.length)), .unset, .unset] [])) _
      refine XS.aloadN X0.here hx rfl (hb hby dj32_0) rfl rfl ?_
      refine st102.trans ?_
      refine XS.istoreN X102.here hx rfl (hb hby dj32_4) rfl (l' := #[.val (.ref x), .val (.int (Int32.ofNat cs.length)), .val (.int (Int32.ofNat cs.length)), .val (.int (Int32.ofNat cs.length)), .unset]) rfl ?_
      refine XS.iloadN X102.here hx rfl (hb hby dj32_5) rfl ?_
      refine XS.iloadN X102.here hx rfl (hb hby dj32_6) rfl ?_
      refine XS.iloadN X102.here hx rfl (hb hby dj32_7) rfl ?_
      refine st103 _ ?_
      refine XS.iloadN X103.here hx rfl (hb hby dj32_11) rfl ?_
      refine XS.ifYes X103.here hx rfl (pc0 := 12) (pc' := 22) rfl (hb hby dj32_12) rfl ((if0 _ _).trans (feq (fun q => absurd ((own_eq8 (a := cs.length) (b := 0) (by omega) (by omega)).mp q) (by omega))).2) (by decide) (by decide) ?_
      refine XS.iloadN X103.here hx rfl (hb hby dj32_22) rfl ?_
      refine XS.iloadN X103.here hx rfl (hb hby dj32_23) rfl ?_
      refine XS.isub X103.here hx rfl (hb hby dj32_24) rfl ?_
      exact kk)
    have pre105 : ∀ tt, SP pg ev below (T103.setTop (mkF mi 25 #[.val (.ref x), .val (.int (Int32.ofNat cs.length)), .val (.int (Int32.ofNat cs.length)), .val (.int (Int32.ofNat cs.length)), .unset] [(.int 0)])) tt → SP pg ev below (s₁.setTop (entryFrame mi #[(.ref x), (.int (Int32.ofNat cs.length)), (.int (Int32.ofNat cs.length))] 5)) tt := fun tt kk => pre104 tt (by rw [show ((Int32.ofNat cs.length) - (Int32.ofNat cs.length)) = (0 : Int32) from Int32.sub_self _]; exact kk)
    obtain ⟨cq106, kq106, q106a, q106b, q106c⟩ := isOf hZ ek103 wE101
    obtain ⟨v106, _, ⟨T106, L106, k106, n106⟩, -, X106, ⟨Lc106, hQ106, l106, y106, z106⟩, st106⟩ := X103.virtualBack hx (y := mn4) (z := mn4) hown (mvT hZ (wd44 hw)) (mvT hZ (wd45 hw)) (notFace_of_selects (args := #[]) (mvT hZ (wd47 hw))) (mvT hZ (wd47 hw)) (mvT hZ (wd46 hw)) (by decide) (backOf (W := 0) (rm_islA la Z a0 hw [] x zc hE n0 O wC101 D0_ (hzc : ¬ (zc = (0 : Int32)))) hZ (wd48 hw) (wd11 hw) (by decide) (by decide)) q106a q106c (g := (mkF mi 28 #[.val (.ref x), .val (.int (Int32.ofNat cs.length)), .val (.int (Int32.ofNat cs.length)), .val (.int (Int32.ofNat cs.length)), .val (.int 0)] [(.ref x)])) rfl (by rw [hml]; rfl) (Steps.refl _) (argsL := []) (rest := []) (lenOf pd_17 rfl) rfl (Nat.le_of_ble_eq_true rfl) (hb hby dj32_28) (fun _ _ => ⟨rfl, ek103, (by decide : 0 + 0 ≤ _), (by decide : 0 + 0 ≤ _)⟩)
    dsimp only [Pt.U, Pt.locs, Pt.cells, Pt.slots] at X106 l106 y106 z106 st106 hQ106
    subst l106 y106 z106
    obtain ⟨rfl, Nq106, ek106⟩ := hQ106
    have N106 := Fr.app N103 Nq106
    obtain ⟨T107, X107, e107, st107⟩ := getF X106 hx hZ hown (host := "") (Or.inl (wd28 hw)) Via.refl ek106 wV101 (g := (mkF mi 35 #[.val (.ref x), .val (.int (Int32.ofNat cs.length)), .val (.int (Int32.ofNat cs.length)), .val (.int (Int32.ofNat cs.length)), .val (.int 0)] [(.ref x)])) rfl rfl (hb hby dj32_35)
    obtain ⟨v108, _, ⟨T108, L108, k108, n108⟩, -, X108, s108, gr108, ⟨Lc108, hQ108, l108, y108, z108, c108⟩, st108⟩ := callSS X107 hx (y := mn34) hown (mvT hZ (wd112 hw)) (mvT hZ (wd113 hw)) (mvT hZ (wd62 hw)) (mvT hZ (wd114 hw)) (by decide) (backOfSH (W := 0) (rm_lns0 la Z a0 hw [] t (Int32.ofNat cs.length) hE n0 O) hZ (wd114 hw) (wd62 hw) (by decide) (by decide) hEL C0.1) (g := (mkF mi 41 #[.val (.ref x), .val (.int (Int32.ofNat cs.length)), .val (.int (Int32.ofNat cs.length)), .val (.int (Int32.ofNat cs.length)), .val (.int 0)] [(.int 0), (.int (Int32.ofNat cs.length)), (.ref t)])) rfl (by rw [hml]; rfl) (argsL := [(.ref t), (.int (Int32.ofNat cs.length)), (.int 0)]) (rest := []) (lenOf pd_23 rfl) rfl (Nat.le_of_ble_eq_true rfl) (hb hby dj32_41) (fun _ _ => ⟨rfl, e107, (by decide : 0 + 2 ≤ _), (by decide : 0 + 4 ≤ _)⟩)
    dsimp only [Pt.U, Pt.locs, Pt.cells, Pt.slots] at X108 s108 gr108 l108 y108 z108 c108 st108 hQ108
    subst l108 y108 z108
    obtain ⟨X108, hS, hZ, hown⟩ := rebS hS (show _ ≤ T107.heap.size by rw [e107]; exact hk) X108 s108 gr108 hZ hown
    have hk : T108.heap.size ≤ T108.heap.size := Nat.le_refl _
    obtain ⟨y_108, u_108, rfl, Nq108, Kq108, r108_0⟩ := hQ108
    have N108 := Fr.app N106 Nq108
    have C109 := CHr.trans C0 c108
    obtain ⟨fs, hr, hrun, hended, hWe⟩ := X108.leaveW hS (show _ ≤ T108.heap.size from hk) (v := some (.ref y_108)) (fun hq => by rw [Bd.returns] at hq; cases hq)
    refine ⟨_, _, pre105 _ ?_, hrun, hended, _, _, rfl, ?_, ?_, hWe.1, hWe.2.1, hWe.2.2.1, hWe.2.2.2.mono (by decide) (by decide)⟩
    · show SP pg ev below (T103.setTop (mkF mi 25 #[.val (.ref x), .val (.int (Int32.ofNat cs.length)), .val (.int (Int32.ofNat cs.length)), .val (.int (Int32.ofNat cs.length)), .unset] [(.int 0)])) _
      refine XS.istore X103.here hx rfl (hb hby dj32_25) rfl (l' := #[.val (.ref x), .val (.int (Int32.ofNat cs.length)), .val (.int (Int32.ofNat cs.length)), .val (.int (Int32.ofNat cs.length)), .val (.int 0)]) rfl ?_
      refine XS.aloadN X103.here hx rfl (hb hby dj32_27) rfl rfl ?_
      refine st106.trans ?_
      refine XS.ifNo X106.here hx rfl (hb hby dj32_31) rfl ((if0 _ _).trans (feq (by decide : ¬ ((1 : Int32) = (0 : Int32)))).1) ?_
      refine XS.aloadN X106.here hx rfl (hb hby dj32_34) rfl rfl ?_
      refine st107 _ ?_
      refine XS.iloadN X107.here hx rfl (hb hby dj32_38) rfl ?_
      refine XS.iload X107.here hx rfl (hb hby dj32_39) rfl ?_
      refine st108.trans ?_
      refine XS.goto X108.here hx rfl (pc0 := 44) (pc' := 57) rfl (hb hby dj32_44) (by decide) (by decide) ?_
      show SP pg ev below (T108.setTop (mkF mi 57 #[.val (.ref x), .val (.int (Int32.ofNat cs.length)), .val (.int (Int32.ofNat cs.length)), .val (.int (Int32.ofNat cs.length)), .val (.int 0)] [(.ref y_108)])) _
      jvm_step X108.here [X108.here.top, hx, (hb hby dj32_57), X108.method', Bd.returns, Value.isRef, FieldType.isReference]
      first | (intro acts; rw [hr _ acts rfl rfl rfl]) | rw [hr _ _ rfl rfl rfl]
      exact Steps.refl _
    · show Q_sub0 Z x t cs zc fm hE n0 _ T108.heap _
      exact ⟨y_108, u_108, rfl, N108, ((Keep.refl hE []).trans Kq108 all0), r108_0⟩
    · show CHr Z ELs sb.vm sb.heap T108.vm T108.heap
      rw [hh]
      exact CHr.trans C109 (CHv.at X108 hZ hEL C109.1)
  · obtain ⟨cq110, kq110, q110a, q110b, q110c⟩ := isOf hZ eE wE101
    obtain ⟨v110, _, ⟨T110, L110, k110, n110⟩, -, X110, ⟨Lc110, hQ110, l110, y110, z110⟩, st110⟩ := X0.virtualBack hx (y := mn3) (z := mn3) hown (mvT hZ (wd50 hw)) (mvT hZ (wd51 hw)) (notFace_of_selects (args := #[]) (mvT hZ (wd53 hw))) (mvT hZ (wd53 hw)) (mvT hZ (wd52 hw)) (by decide) (backOf (W := 0) (rm_wlen la Z a0 hw [] x t cs zc hE n0 O P0_ D0_ (hzc : ¬ (zc = (0 : Int32)))) hZ (wd54 hw) (wd11 hw) (by decide) (by decide)) q110a q110c (g := (mkF mi 1 #[.val (.ref x), .val (.int (Int32.ofNat cs.length)), .val (.int (Int32.ofNat cs.length)), .unset, .unset] [(.ref x)])) rfl (by rw [hml]; rfl) (Steps.refl _) (argsL := []) (rest := []) (lenOf pd_18 rfl) rfl (Nat.le_of_ble_eq_true rfl) (hb hby dj32_1) (fun _ _ => ⟨rfl, eE, (by decide : 0 + 0 ≤ _), (by decide : 0 + 0 ≤ _)⟩)
    dsimp only [Pt.U, Pt.locs, Pt.cells, Pt.slots] at X110 l110 y110 z110 st110 hQ110
    subst l110 y110 z110
    obtain ⟨rfl, Nq110, ek110⟩ := hQ110
    have N110 := Fr.app N0 Nq110
    obtain ⟨v111, _, ⟨T111, L111, k111, n111⟩, -, X111, ⟨Lc111, hQ111, l111, y111, z111⟩, st111⟩ := Jvm.LawKit.callS X110 hx (y := mn8) hown (mvT hZ (wd104 hw)) (mvT hZ (wd105 hw)) (mvT hZ (wd11 hw)) (mvT hZ (wd106 hw)) (by decide) (backOf (W := 0) (rm_cbe la Z a0 hw [] (Int32.ofNat cs.length) (Int32.ofNat cs.length) (Int32.ofNat cs.length) fm hE n0 O D1_ (own_nn8 (by omega) : ¬ ((Int32.ofNat cs.length) < (0 : Int32))) (by simp [Int32.lt_irrefl] : ¬ ((Int32.ofNat cs.length) < (Int32.ofNat cs.length))) (by simp [Int32.lt_irrefl] : ¬ ((Int32.ofNat cs.length) < (Int32.ofNat cs.length))) (hfm : fm.isRef = true)) hZ (wd106 hw) (wd11 hw) (by decide) (by decide)) (g := (mkF mi 8 #[.val (.ref x), .val (.int (Int32.ofNat cs.length)), .val (.int (Int32.ofNat cs.length)), .val (.int (Int32.ofNat cs.length)), .unset] [(.int (Int32.ofNat cs.length)), (.int (Int32.ofNat cs.length)), (.int (Int32.ofNat cs.length))])) rfl (by rw [hml]; rfl) (argsL := [(.int (Int32.ofNat cs.length)), (.int (Int32.ofNat cs.length)), (.int (Int32.ofNat cs.length))]) (rest := []) (lenOf pd_3 rfl) rfl (Nat.le_of_ble_eq_true rfl) (hb hby dj32_8) (fun _ _ => ⟨rfl, ek110, (by decide : 0 + 0 ≤ _), (by decide : 0 + 0 ≤ _)⟩)
    dsimp only [Pt.U, Pt.locs, Pt.cells, Pt.slots] at X111 l111 y111 z111 st111 hQ111
    subst l111 y111 z111
    obtain ⟨rfl, Nq111, ek111⟩ := hQ111
    have N111 := Fr.app N110 Nq111
    have pre112 : ∀ tt, SP pg ev below (T111.setTop (mkF mi 25 #[.val (.ref x), .val (.int (Int32.ofNat cs.length)), .val (.int (Int32.ofNat cs.length)), .val (.int (Int32.ofNat cs.length)), .unset] [(.int ((Int32.ofNat cs.length) - (Int32.ofNat cs.length)))])) tt → SP pg ev below (s₁.setTop (entryFrame mi #[(.ref x), (.int (Int32.ofNat cs.length)), (.int (Int32.ofNat cs.length))] 5)) tt := fun tt kk => pre0 _ (by
      show SP pg ev below (s₁.setTop (mkF mi 0 #[.val (.ref x), .val (.int (Int32.ofNat cs.length)), .val (.int (Int32.ofNat cs.length)), .unset, .unset] [])) _
      refine XS.aloadN X0.here hx rfl (hb hby dj32_0) rfl rfl ?_
      refine st110.trans ?_
      refine XS.istoreN X110.here hx rfl (hb hby dj32_4) rfl (l' := #[.val (.ref x), .val (.int (Int32.ofNat cs.length)), .val (.int (Int32.ofNat cs.length)), .val (.int (Int32.ofNat cs.length)), .unset]) rfl ?_
      refine XS.iloadN X110.here hx rfl (hb hby dj32_5) rfl ?_
      refine XS.iloadN X110.here hx rfl (hb hby dj32_6) rfl ?_
      refine XS.iloadN X110.here hx rfl (hb hby dj32_7) rfl ?_
      refine st111 _ ?_
      refine XS.iloadN X111.here hx rfl (hb hby dj32_11) rfl ?_
      refine XS.ifYes X111.here hx rfl (pc0 := 12) (pc' := 22) rfl (hb hby dj32_12) rfl ((if0 _ _).trans (feq (fun q => absurd ((own_eq8 (a := cs.length) (b := 0) (by omega) (by omega)).mp q) (by omega))).2) (by decide) (by decide) ?_
      refine XS.iloadN X111.here hx rfl (hb hby dj32_22) rfl ?_
      refine XS.iloadN X111.here hx rfl (hb hby dj32_23) rfl ?_
      refine XS.isub X111.here hx rfl (hb hby dj32_24) rfl ?_
      exact kk)
    have pre113 : ∀ tt, SP pg ev below (T111.setTop (mkF mi 25 #[.val (.ref x), .val (.int (Int32.ofNat cs.length)), .val (.int (Int32.ofNat cs.length)), .val (.int (Int32.ofNat cs.length)), .unset] [(.int 0)])) tt → SP pg ev below (s₁.setTop (entryFrame mi #[(.ref x), (.int (Int32.ofNat cs.length)), (.int (Int32.ofNat cs.length))] 5)) tt := fun tt kk => pre112 tt (by rw [show ((Int32.ofNat cs.length) - (Int32.ofNat cs.length)) = (0 : Int32) from Int32.sub_self _]; exact kk)
    obtain ⟨cq114, kq114, q114a, q114b, q114c⟩ := isOf hZ ek111 wE101
    obtain ⟨v114, _, ⟨T114, L114, k114, n114⟩, -, X114, ⟨Lc114, hQ114, l114, y114, z114⟩, st114⟩ := X111.virtualBack hx (y := mn4) (z := mn4) hown (mvT hZ (wd44 hw)) (mvT hZ (wd45 hw)) (notFace_of_selects (args := #[]) (mvT hZ (wd47 hw))) (mvT hZ (wd47 hw)) (mvT hZ (wd46 hw)) (by decide) (backOf (W := 0) (rm_islB la Z a0 hw [] x zc hE n0 O wC101 D0_ (hzc : ¬ (zc = (0 : Int32)))) hZ (wd48 hw) (wd11 hw) (by decide) (by decide)) q114a q114c (g := (mkF mi 28 #[.val (.ref x), .val (.int (Int32.ofNat cs.length)), .val (.int (Int32.ofNat cs.length)), .val (.int (Int32.ofNat cs.length)), .val (.int 0)] [(.ref x)])) rfl (by rw [hml]; rfl) (Steps.refl _) (argsL := []) (rest := []) (lenOf pd_17 rfl) rfl (Nat.le_of_ble_eq_true rfl) (hb hby dj32_28) (fun _ _ => ⟨rfl, ek111, (by decide : 0 + 0 ≤ _), (by decide : 0 + 0 ≤ _)⟩)
    dsimp only [Pt.U, Pt.locs, Pt.cells, Pt.slots] at X114 l114 y114 z114 st114 hQ114
    subst l114 y114 z114
    obtain ⟨rfl, Nq114, ek114⟩ := hQ114
    have N114 := Fr.app N111 Nq114
    obtain ⟨T115, X115, e115, st115⟩ := getF X114 hx hZ hown (host := "") (Or.inl (wd28 hw)) Via.refl ek114 wV101 (g := (mkF mi 48 #[.val (.ref x), .val (.int (Int32.ofNat cs.length)), .val (.int (Int32.ofNat cs.length)), .val (.int (Int32.ofNat cs.length)), .val (.int 0)] [(.ref x)])) rfl rfl (hb hby dj32_48)
    obtain ⟨v116, _, ⟨T116, L116, k116, n116⟩, -, X116, s116, gr116, ⟨Lc116, hQ116, l116, y116, z116, c116⟩, st116⟩ := callSS X115 hx (y := mn37) hown (mvT hZ (wd188 hw)) (mvT hZ (wd189 hw)) (mvT hZ (wd83 hw)) (mvT hZ (wd190 hw)) (by decide) (backOfSH (W := 0) (rm_uns0 la Z a0 hw [] t (Int32.ofNat cs.length) hE n0 O) hZ (wd190 hw) (wd83 hw) (by decide) (by decide) hEL C0.1) (g := (mkF mi 54 #[.val (.ref x), .val (.int (Int32.ofNat cs.length)), .val (.int (Int32.ofNat cs.length)), .val (.int (Int32.ofNat cs.length)), .val (.int 0)] [(.int 0), (.int (Int32.ofNat cs.length)), (.ref t)])) rfl (by rw [hml]; rfl) (argsL := [(.ref t), (.int (Int32.ofNat cs.length)), (.int 0)]) (rest := []) (lenOf pd_23 rfl) rfl (Nat.le_of_ble_eq_true rfl) (hb hby dj32_54) (fun _ _ => ⟨rfl, e115, (by decide : 0 + 2 ≤ _), (by decide : 0 + 4 ≤ _)⟩)
    dsimp only [Pt.U, Pt.locs, Pt.cells, Pt.slots] at X116 s116 gr116 l116 y116 z116 c116 st116 hQ116
    subst l116 y116 z116
    obtain ⟨X116, hS, hZ, hown⟩ := rebS hS (show _ ≤ T115.heap.size by rw [e115]; exact hk) X116 s116 gr116 hZ hown
    have hk : T116.heap.size ≤ T116.heap.size := Nat.le_refl _
    obtain ⟨y_116, u_116, rfl, Nq116, Kq116, r116_0⟩ := hQ116
    have N116 := Fr.app N114 Nq116
    have C117 := CHr.trans C0 c116
    obtain ⟨fs, hr, hrun, hended, hWe⟩ := X116.leaveW hS (show _ ≤ T116.heap.size from hk) (v := some (.ref y_116)) (fun hq => by rw [Bd.returns] at hq; cases hq)
    refine ⟨_, _, pre113 _ ?_, hrun, hended, _, _, rfl, ?_, ?_, hWe.1, hWe.2.1, hWe.2.2.1, hWe.2.2.2.mono (by decide) (by decide)⟩
    · show SP pg ev below (T111.setTop (mkF mi 25 #[.val (.ref x), .val (.int (Int32.ofNat cs.length)), .val (.int (Int32.ofNat cs.length)), .val (.int (Int32.ofNat cs.length)), .unset] [(.int 0)])) _
      refine XS.istore X111.here hx rfl (hb hby dj32_25) rfl (l' := #[.val (.ref x), .val (.int (Int32.ofNat cs.length)), .val (.int (Int32.ofNat cs.length)), .val (.int (Int32.ofNat cs.length)), .val (.int 0)]) rfl ?_
      refine XS.aloadN X111.here hx rfl (hb hby dj32_27) rfl rfl ?_
      refine st114.trans ?_
      refine XS.ifYes X114.here hx rfl (pc0 := 31) (pc' := 47) rfl (hb hby dj32_31) rfl ((if0 _ _).trans (teq (rfl : (0 : Int32) = (0 : Int32))).1) (by decide) (by decide) ?_
      refine XS.aloadN X114.here hx rfl (hb hby dj32_47) rfl rfl ?_
      refine st115 _ ?_
      refine XS.iloadN X115.here hx rfl (hb hby dj32_51) rfl ?_
      refine XS.iload X115.here hx rfl (hb hby dj32_52) rfl ?_
      refine st116.trans ?_
      show SP pg ev below (T116.setTop (mkF mi 57 #[.val (.ref x), .val (.int (Int32.ofNat cs.length)), .val (.int (Int32.ofNat cs.length)), .val (.int (Int32.ofNat cs.length)), .val (.int 0)] [(.ref y_116)])) _
      jvm_step X116.here [X116.here.top, hx, (hb hby dj32_57), X116.method', Bd.returns, Value.isRef, FieldType.isReference]
      first | (intro acts; rw [hr _ acts rfl rfl rfl]) | rw [hr _ _ rfl rfl rfl]
      exact Steps.refl _
    · show Q_sub0 Z x t cs zc fm hE n0 _ T116.heap _
      exact ⟨y_116, u_116, rfl, N116, ((Keep.refl hE []).trans Kq116 all0), r116_0⟩
    · show CHr Z ELs sb.vm sb.heap T116.vm T116.heap
      rw [hh]
      exact CHr.trans C117 (CHv.at X116 hZ hEL C117.1)
theorem ef_sbi0 (mi : MethodId) (x : Addr) (cs : List Int32) : entryFrame mi #[(.ref x), (.int (Int32.ofNat cs.length))] 2 = mkF mi 0 #[.val (.ref x), .val (.int (Int32.ofNat cs.length))] [] := rfl
def Q_sbi0 (Z : State) (x t : Addr) (cs : List Int32) (zc : Int32) (fm : Value) (hE : Heap) (n0 : Nat) (vv : Option Value) (hh : Heap) (LL : List Loc) : Prop := ∃ y : Addr, ∃ u : Addr, (vv = some (.ref y)) ∧ (Fr n0 LL) ∧ (Keep hE hh []) ∧ (WStr Z hh y u ([] : List Int32))
theorem rm_sbi0 (hw : HW a0 Z) (ws : List Cond) (x t : Addr) (cs : List Int32) (zc : Int32) (fm : Value) (hE : Heap) (n0 : Nat) (O : Old Z n0 hE) (P0_ : WStr Z hE x t cs) (D0_ : Sta Z Z.heap c0_ c8_ "Z" (.int zc)) (D1_ : Sta Z Z.heap c3_ c7_ c4_ fm) (h0 : 0 < cs.length) (h4 : cs.length ≤ 4) (hzc : ¬ (zc = (0 : Int32))) (hfm : fm.isRef = true) :
    MW la Z hE mn39 jc33 2 (some (.object c0_)) ws (rr 3 2 4 45) #[(.ref x), (.int (Int32.ofNat cs.length))] (Q_sbi0 Z x t cs zc fm hE n0) := by
  refine MetFree.of_bodySF (plainFor_of_name pn_java_lang_String) hisR ?_
  intro pg ev sb mi gs below me cd s₁ Bd hml0 hPt hKt
  obtain ⟨rfl, hZ, hh, hH⟩ := hPt
  have hx := Bd.exec
  have hby := Bd.bytes
  have hml : cd.maxLocals = 2 := hml0
  have hown : sb.vm.findClass c0_ = some mi.cls := findClass_of_methodNamed Bd.named
  have X0 : Stand pg la ev (rr 3 2 4 45) (sb.setVm sb.vm) mi #[(.ref x), (.int (Int32.ofNat cs.length))] below me cd s₁ [] 0 0 := Stand.of_body Bd
  have eE : s₁.heap = hE := by rw [← hh, Bd.state]; rfl
  have N0 := Fr.nil n0
  have pre0 : ∀ tt, SP pg ev below (s₁.setTop (mkF mi 0 #[.val (.ref x), .val (.int (Int32.ofNat cs.length))] [])) tt → SP pg ev below (s₁.setTop (entryFrame mi #[(.ref x), (.int (Int32.ofNat cs.length))] 2)) tt := fun tt kk => castTop (ef_sbi0 mi x cs) kk
  have hS : sb.Since sb.vm 0 := (State.WarmedH.refl sb).since 0
  have hk : 0 ≤ hE.size := Nat.zero_le _
  have hEL := own_EW hw
  have C0 := CHr.refl hH
  obtain ⟨cq101, kq101, q101a, q101b, q101c⟩ := isOf hZ eE (P0_).1
  obtain ⟨v101, _, ⟨T101, L101, k101, n101⟩, -, X101, ⟨Lc101, hQ101, l101, y101, z101⟩, st101⟩ := X0.virtualBack hx (y := mn3) (z := mn3) hown (mvT hZ (wd50 hw)) (mvT hZ (wd51 hw)) (notFace_of_selects (args := #[]) (mvT hZ (wd53 hw))) (mvT hZ (wd53 hw)) (mvT hZ (wd52 hw)) (by decide) (backOf (W := 2) (rm_wlen la Z a0 hw [] x t cs zc hE n0 O P0_ D0_ (hzc : ¬ (zc = (0 : Int32)))) hZ (wd54 hw) (wd11 hw) (by decide) (by decide)) q101a q101c (g := (mkF mi 3 #[.val (.ref x), .val (.int (Int32.ofNat cs.length))] [(.ref x), (.int (Int32.ofNat cs.length)), (.ref x)])) rfl (by rw [hml]; rfl) (Steps.refl _) (argsL := []) (rest := [(.int (Int32.ofNat cs.length)), (.ref x)]) (lenOf pd_18 rfl) rfl (Nat.le_of_ble_eq_true rfl) (hb hby dj33_3) (fun _ _ => ⟨rfl, eE, (by decide : 0 + 0 ≤ _), (by decide : 0 + 0 ≤ _)⟩)
  dsimp only [Pt.U, Pt.locs, Pt.cells, Pt.slots] at X101 l101 y101 z101 st101 hQ101
  subst l101 y101 z101
  obtain ⟨rfl, Nq101, ek101⟩ := hQ101
  have N101 := Fr.app N0 Nq101
  obtain ⟨cq102, kq102, q102a, q102b, q102c⟩ := isOf hZ ek101 (P0_).1
  obtain ⟨v102, _, ⟨T102, L102, k102, n102⟩, -, X102, s102, gr102, ⟨Lc102, hQ102, l102, y102, z102, c102⟩, st102⟩ := X101.virtualBackS hx (y := mn38) (z := mn38) hown (mvT hZ (wd99 hw)) (mvT hZ (wd100 hw)) (notFace_of_selects (args := #[]) (mvT hZ (wd102 hw))) (mvT hZ (wd102 hw)) (mvT hZ (wd101 hw)) (by decide) (backOfSH (W := 0) (rm_sub0 la Z a0 hw [] x t cs zc fm hE n0 O P0_ D0_ D1_ (h0 : 0 < cs.length) (h4 : cs.length ≤ 4) (hzc : ¬ (zc = (0 : Int32))) (hfm : fm.isRef = true)) hZ (wd103 hw) (wd11 hw) (by decide) (by decide) hEL C0.1) q102a q102c (g := (mkF mi 6 #[.val (.ref x), .val (.int (Int32.ofNat cs.length))] [(.int (Int32.ofNat cs.length)), (.int (Int32.ofNat cs.length)), (.ref x)])) rfl (by rw [hml]; rfl) (Steps.refl _) (argsL := [(.int (Int32.ofNat cs.length)), (.int (Int32.ofNat cs.length))]) (rest := []) (lenOf pd_24 rfl) rfl (Nat.le_of_ble_eq_true rfl) (hb hby dj33_6) (fun _ _ => ⟨rfl, ek101, (by decide : 0 + 2 ≤ _), (by decide : 0 + 4 ≤ _)⟩)
  dsimp only [Pt.U, Pt.locs, Pt.cells, Pt.slots] at X102 s102 gr102 l102 y102 z102 c102 st102 hQ102
  subst l102 y102 z102
  obtain ⟨X102, hS, hZ, hown⟩ := rebS hS (show _ ≤ T101.heap.size by rw [ek101]; exact hk) X102 s102 gr102 hZ hown
  have hk : T102.heap.size ≤ T102.heap.size := Nat.le_refl _
  obtain ⟨y_102, u_102, rfl, Nq102, Kq102, r102_0⟩ := hQ102
  have N102 := Fr.app N101 Nq102
  have C103 := CHr.trans C0 c102
  obtain ⟨fs, hr, hrun, hended, hWe⟩ := X102.leaveW hS (show _ ≤ T102.heap.size from hk) (v := some (.ref y_102)) (fun hq => by rw [Bd.returns] at hq; cases hq)
  refine ⟨_, _, pre0 _ ?_, hrun, hended, _, _, rfl, ?_, ?_, hWe.1, hWe.2.1, hWe.2.2.1, hWe.2.2.2.mono (by decide) (by decide)⟩
  · show SP pg ev below (s₁.setTop (mkF mi 0 #[.val (.ref x), .val (.int (Int32.ofNat cs.length))] [])) _
    refine XS.aloadN X0.here hx rfl (hb hby dj33_0) rfl rfl ?_
    refine XS.iloadN X0.here hx rfl (hb hby dj33_1) rfl ?_
    refine XS.aloadN X0.here hx rfl (hb hby dj33_2) rfl rfl ?_
    refine st101.trans ?_
    refine st102.trans ?_
    show SP pg ev below (T102.setTop (mkF mi 9 #[.val (.ref x), .val (.int (Int32.ofNat cs.length))] [(.ref y_102)])) _
    jvm_step X102.here [X102.here.top, hx, (hb hby dj33_9), X102.method', Bd.returns, Value.isRef, FieldType.isReference]
    first | (intro acts; rw [hr _ acts rfl rfl rfl]) | rw [hr _ _ rfl rfl rfl]
    exact Steps.refl _
  · show Q_sbi0 Z x t cs zc fm hE n0 _ T102.heap _
    exact ⟨y_102, u_102, rfl, N102, ((Keep.refl hE []).trans Kq102 all0), r102_0⟩
  · show CHr Z ELs sb.vm sb.heap T102.vm T102.heap
    rw [hh]
    exact CHr.trans C103 (CHv.at X102 hZ hEL C103.1)
theorem dj34_0 : decode jc34 0 = .ok (.iload_n 0, 1) := by decide +kernel
theorem dj34_1 : decode jc34 1 = .ok (.ifCond .lt 8, 3) := by decide +kernel
theorem dj34_4 : decode jc34 4 = .ok (.iload_n 0, 1) := by decide +kernel
theorem dj34_5 : decode jc34 5 = .ok (.iload_n 1, 1) := by decide +kernel
theorem dj34_6 : decode jc34 6 = .ok (.if_icmp .lt 10, 3) := by decide +kernel
theorem dj34_16 : decode jc34 16 = .ok (.iload_n 0, 1) := by decide +kernel
theorem dj34_17 : decode jc34 17 = .ok (.ireturn, 1) := by decide +kernel
theorem ef_pchk (mi : MethodId) (i : Int32) (n : Int32) (fm : Value) (hx_fm : fm.isRef = true) : entryFrame mi #[(.int i), (.int n), fm] 3 = mkF mi 0 #[.val (.int i), .val (.int n), .val fm] [] := by rcases ref_cases hx_fm with rfl | ⟨_, rfl⟩ <;> (first | (simp [entryFrame, mkF, argsToLocals, Value.category]; done) | rfl)
def Q_pchk (Z : State) (i n : Int32) (fm : Value) (hE : Heap) (n0 : Nat) (vv : Option Value) (hh : Heap) (LL : List Loc) : Prop := (vv = some (.int i)) ∧ (Fr n0 LL) ∧ (hh = hE)
theorem rm_pchk (hw : HW a0 Z) (ws : List Cond) (i n : Int32) (fm : Value) (hE : Heap) (n0 : Nat) (O : Old Z n0 hE) (hi0 : ¬ (i < (0 : Int32))) (hin : i < n) (hfm : fm.isRef = true) :
    MF la Z hE mn40 jc34 3 (some .int) ws (rr 0 0 0 0) #[(.int i), (.int n), fm] (Q_pchk Z i n fm hE n0) := by
  refine MetFree.of_bodySF (plainFor_of_name pn_jdk_internal_util_Preconditions) hisR ?_
  intro pg ev sb mi gs below me cd s₁ Bd hml0 hPt hKt
  obtain ⟨rfl, hZ, hh⟩ := hPt
  have hx := Bd.exec
  have hby := Bd.bytes
  have hml : cd.maxLocals = 3 := hml0
  have hown : sb.vm.findClass c3_ = some mi.cls := findClass_of_methodNamed Bd.named
  have X0 : Stand pg la ev (rr 0 0 0 0) sb mi #[(.int i), (.int n), fm] below me cd s₁ [] 0 0 := Stand.of_body Bd
  have eE : s₁.heap = hE := by rw [← hh, Bd.state]; rfl
  have N0 := Fr.nil n0
  have pre0 : ∀ tt, SP pg ev below (s₁.setTop (mkF mi 0 #[.val (.int i), .val (.int n), .val fm] [])) tt → SP pg ev below (s₁.setTop (entryFrame mi #[(.int i), (.int n), fm] 3)) tt := fun tt kk => castTop (ef_pchk mi i n fm hfm) kk
  obtain ⟨fs, hr, hrun, hended, hW, hsame⟩ := X0.leave (v := some (.int i)) (fun hq => by rw [Bd.returns] at hq; cases hq)
  refine ⟨_, _, pre0 _ ?_, hrun, hended, _, _, rfl, ?_, ⟨_, rfl⟩, hW, hsame.mono (by decide) (by decide)⟩
  · show SP pg ev below (s₁.setTop (mkF mi 0 #[.val (.int i), .val (.int n), .val fm] [])) _
    refine XS.iloadN X0.here hx rfl (hb hby dj34_0) rfl ?_
    refine XS.ifNo X0.here hx rfl (hb hby dj34_1) rfl ((if0 _ _).trans (flt hi0).1) ?_
    refine XS.iloadN X0.here hx rfl (hb hby dj34_4) rfl ?_
    refine XS.iloadN X0.here hx rfl (hb hby dj34_5) rfl ?_
    refine XS.icmpYes X0.here hx rfl (pc0 := 6) (pc' := 16) rfl (hb hby dj34_6) rfl (tlt hin).1 (by decide) (by decide) ?_
    refine XS.iloadN X0.here hx rfl (hb hby dj34_16) rfl ?_
    show SP pg ev below (s₁.setTop (mkF mi 17 #[.val (.int i), .val (.int n), .val fm] [(.int i)])) _
    exact retI X0 hx Bd.returns (hb hby dj34_17) hr
  · show Q_pchk Z i n fm hE n0 _ s₁.heap _
    rw [eE]
    exact ⟨rfl, N0, rfl⟩
theorem dj9_0 : decode jc9 0 = .ok (.iload_n 0, 1) := by decide +kernel
theorem dj9_1 : decode jc9 1 = .ok (.iload_n 1, 1) := by decide +kernel
theorem dj9_2 : decode jc9 2 = .ok (.getstatic 1053, 3) := by decide +kernel
theorem dj9_5 : decode jc9 5 = .ok (.invokestatic 1059, 3) := by decide +kernel
theorem dj9_8 : decode jc9 8 = .ok (.pop, 1) := by decide +kernel
theorem dj9_9 : decode jc9 9 = .ok (.return_, 1) := by decide +kernel
theorem pd_25 : parseMethodDescriptor "(IILjava/util/function/BiFunction;)I" = some ⟨[.int, .int, (.object "java/util/function/BiFunction")], some .int⟩ := by decide +kernel
theorem ef_schk (mi : MethodId) (i : Int32) (n : Int32) : entryFrame mi #[(.int i), (.int n)] 2 = mkF mi 0 #[.val (.int i), .val (.int n)] [] := rfl
def Q_schk (Z : State) (i n : Int32) (fm : Value) (hE : Heap) (n0 : Nat) (vv : Option Value) (hh : Heap) (LL : List Loc) : Prop := (vv = none) ∧ (Fr n0 LL) ∧ (hh = hE)
theorem rm_schk (hw : HW a0 Z) (ws : List Cond) (i n : Int32) (fm : Value) (hE : Heap) (n0 : Nat) (O : Old Z n0 hE) (D0_ : Sta Z Z.heap c3_ c7_ c4_ fm) (hi0 : ¬ (i < (0 : Int32))) (hin : i < n) (hfm : fm.isRef = true) :
    MF la Z hE mn41 jc9 2 none ws (rr 1 0 0 14) #[(.int i), (.int n)] (Q_schk Z i n fm hE n0) := by
  refine MetFree.of_bodySF (plainFor_of_name pn_java_lang_String) hisR ?_
  intro pg ev sb mi gs below me cd s₁ Bd hml0 hPt hKt
  obtain ⟨rfl, hZ, hh⟩ := hPt
  have hx := Bd.exec
  have hby := Bd.bytes
  have hml : cd.maxLocals = 2 := hml0
  have hown : sb.vm.findClass c0_ = some mi.cls := findClass_of_methodNamed Bd.named
  have X0 : Stand pg la ev (rr 1 0 0 14) sb mi #[(.int i), (.int n)] below me cd s₁ [] 0 0 := Stand.of_body Bd
  have eE : s₁.heap = hE := by rw [← hh, Bd.state]; rfl
  have N0 := Fr.nil n0
  have pre0 : ∀ tt, SP pg ev below (s₁.setTop (mkF mi 0 #[.val (.int i), .val (.int n)] [])) tt → SP pg ev below (s₁.setTop (entryFrame mi #[(.int i), (.int n)] 2)) tt := fun tt kk => castTop (ef_schk mi i n) kk
  obtain ⟨T101, X101, e101, st101⟩ := getS2 X0 hx hZ hown (host := "") (Or.inl (wd107 hw)) Via.refl eE (D0_.ext O.2) (g := (mkF mi 2 #[.val (.int i), .val (.int n)] [(.int n), (.int i)])) rfl (hb hby dj9_2)
  obtain ⟨v102, _, ⟨T102, L102, k102, n102⟩, -, X102, ⟨Lc102, hQ102, l102, y102, z102⟩, st102⟩ := Jvm.LawKit.callS X101 hx (y := mn40) hown (mvT hZ (wd145 hw)) (mvT hZ (wd146 hw)) (mvT hZ (wd108 hw)) (mvT hZ (wd147 hw)) (by decide) (backOf (W := 0) (rm_pchk la Z a0 hw [] i n fm hE n0 O (hi0 : ¬ (i < (0 : Int32))) (hin : i < n) (hfm : fm.isRef = true)) hZ (wd147 hw) (wd108 hw) (by decide) (by decide)) (g := (mkF mi 5 #[.val (.int i), .val (.int n)] [fm, (.int n), (.int i)])) rfl (by rw [hml]; rfl) (argsL := [(.int i), (.int n), fm]) (rest := []) (lenOf pd_25 rfl) rfl (Nat.le_of_ble_eq_true rfl) (hb hby dj9_5) (fun _ _ => ⟨rfl, e101, (by decide : 0 + 0 ≤ _), (by decide : 0 + 0 ≤ _)⟩)
  dsimp only [Pt.U, Pt.locs, Pt.cells, Pt.slots] at X102 l102 y102 z102 st102 hQ102
  subst l102 y102 z102
  obtain ⟨rfl, Nq102, ek102⟩ := hQ102
  have N102 := Fr.app N0 Nq102
  obtain ⟨fs, hr, hrun, hended, hW, hsame⟩ := X102.leave (v := none) (fun _ => rfl)
  refine ⟨_, _, pre0 _ ?_, hrun, hended, _, _, rfl, ?_, ⟨_, rfl⟩, hW, hsame.mono (by decide) (by decide)⟩
  · show SP pg ev below (s₁.setTop (mkF mi 0 #[.val (.int i), .val (.int n)] [])) _
    refine XS.iloadN X0.here hx rfl (hb hby dj9_0) rfl ?_
    refine XS.iloadN X0.here hx rfl (hb hby dj9_1) rfl ?_
    refine st101 _ ?_
    refine st102 _ ?_
    refine XS.pop X102.here hx rfl (hb hby dj9_8) rfl rfl ?_
    show SP pg ev below (T102.setTop (mkF mi 9 #[.val (.int i), .val (.int n)] [])) _
    exact X102.returnOut hx Bd.returns (hb hby dj9_9) hr
  · show Q_schk Z i n fm hE n0 _ T102.heap _
    rw [ek102]
    exact ⟨rfl, N102, rfl⟩
theorem dj46_0 : decode jc46 0 = .ok (.iload_n 1, 1) := by decide +kernel
theorem dj46_1 : decode jc46 1 = .ok (.aload_n 0, 1) := by decide +kernel
theorem dj46_2 : decode jc46 2 = .ok (.arraylength, 1) := by decide +kernel
theorem dj46_3 : decode jc46 3 = .ok (.invokestatic 9, 3) := by decide +kernel
theorem dj46_6 : decode jc46 6 = .ok (.aload_n 0, 1) := by decide +kernel
theorem dj46_7 : decode jc46 7 = .ok (.iload_n 1, 1) := by decide +kernel
theorem dj46_8 : decode jc46 8 = .ok (.baload, 1) := by decide +kernel
theorem dj46_9 : decode jc46 9 = .ok (.sipush 255, 3) := by decide +kernel
theorem dj46_12 : decode jc46 12 = .ok (.iand, 1) := by decide +kernel
theorem dj46_13 : decode jc46 13 = .ok (.i2c, 1) := by decide +kernel
theorem dj46_14 : decode jc46 14 = .ok (.ireturn, 1) := by decide +kernel
theorem ef_l1ch (mi : MethodId) (t : Addr) (i : Nat) : entryFrame mi #[(.ref t), (.int (Int32.ofNat i))] 2 = mkF mi 0 #[.val (.ref t), .val (.int (Int32.ofNat i))] [] := rfl
def Q_l1ch (Z : State) (t : Addr) (kb : ClassId) (cs : List Int32) (i : Nat) (fm : Value) (hE : Heap) (n0 : Nat) (vv : Option Value) (hh : Heap) (LL : List Loc) : Prop := (vv = some (.int (cs.getD i 0))) ∧ (Fr n0 LL) ∧ (hh = hE)
theorem rm_l1ch (hw : HW a0 Z) (ws : List Cond) (t : Addr) (kb : ClassId) (cs : List Int32) (i : Nat) (fm : Value) (hE : Heap) (n0 : Nat) (O : Old Z n0 hE) (P0_ : Arv Z hE t kb .byte (Int32.ofNat cs.length) (cs.map fun c => Value.int (StrChars.lo8 c)) (.int 0)) (D0_ : Sta Z Z.heap c3_ c7_ c4_ fm) (hi : i < cs.length) (hl : cs.length ≤ 4000) (hbl : ∀ c ∈ cs, ¬ c < 0 ∧ ¬ (255 : Int32) < c) (hfm : fm.isRef = true) :
    MF la Z hE mn42 jc46 2 (some .char) ws (rr 2 0 0 27) #[(.ref t), (.int (Int32.ofNat i))] (Q_l1ch Z t kb cs i fm hE n0) := by
  refine MetFree.of_bodySF (plainFor_of_name pn_java_lang_StringLatin1) hisR ?_
  intro pg ev sb mi gs below me cd s₁ Bd hml0 hPt hKt
  obtain ⟨rfl, hZ, hh⟩ := hPt
  have hx := Bd.exec
  have hby := Bd.bytes
  have hml : cd.maxLocals = 2 := hml0
  have hown : sb.vm.findClass c5_ = some mi.cls := findClass_of_methodNamed Bd.named
  have X0 : Stand pg la ev (rr 2 0 0 27) sb mi #[(.ref t), (.int (Int32.ofNat i))] below me cd s₁ [] 0 0 := Stand.of_body Bd
  have eE : s₁.heap = hE := by rw [← hh, Bd.state]; rfl
  have N0 := Fr.nil n0
  have pre0 : ∀ tt, SP pg ev below (s₁.setTop (mkF mi 0 #[.val (.ref t), .val (.int (Int32.ofNat i))] [])) tt → SP pg ev below (s₁.setTop (entryFrame mi #[(.ref t), (.int (Int32.ofNat i))] 2)) tt := fun tt kk => castTop (ef_l1ch mi t i) kk
  obtain ⟨cl101, Ar101, -, Sz101, Nn101, -, -⟩ := id P0_
  obtain ⟨v102, _, ⟨T102, L102, k102, n102⟩, -, X102, ⟨Lc102, hQ102, l102, y102, z102⟩, st102⟩ := Jvm.LawKit.callS X0 hx (y := mn41) hown (mvT hZ (wd142 hw)) (mvT hZ (wd143 hw)) (mvT hZ (wd11 hw)) (mvT hZ (wd144 hw)) (by decide) (backOf (W := 0) (rm_schk la Z a0 hw [] (Int32.ofNat i) (Int32.ofNat cs.length) fm hE n0 O D0_ (own_nn8 (by omega) : ¬ ((Int32.ofNat i) < (0 : Int32))) ((own_lt8 (by omega) (by omega)).mpr hi : (Int32.ofNat i) < (Int32.ofNat cs.length)) (hfm : fm.isRef = true)) hZ (wd144 hw) (wd11 hw) (by decide) (by decide)) (g := (mkF mi 3 #[.val (.ref t), .val (.int (Int32.ofNat i))] [(.int (Int32.ofNat cs.length)), (.int (Int32.ofNat i))])) rfl (by rw [hml]; rfl) (argsL := [(.int (Int32.ofNat i)), (.int (Int32.ofNat cs.length))]) (rest := []) (lenOf pd_19 rfl) rfl (Nat.le_of_ble_eq_true rfl) (hb hby dj46_3) (fun _ _ => ⟨rfl, eE, (by decide : 0 + 0 ≤ _), (by decide : 0 + 0 ≤ _)⟩)
  dsimp only [Pt.U, Pt.locs, Pt.cells, Pt.slots] at X102 l102 y102 z102 st102 hQ102
  subst l102 y102 z102
  obtain ⟨rfl, Nq102, ek102⟩ := hQ102
  have N102 := Fr.app N0 Nq102
  obtain ⟨cl103, Ar103, -, Sz103, Nn103, Hh103, -⟩ := id P0_
  have hin103 : ¬ ((Int32.ofNat i) < 0 ∨ cl103.slots.size ≤ ((Int32.ofNat i)).toNatClampNeg) := inb_of Sz103 (own_w0 (by omega) (by omega))
  have hat103 : cl103.slots[((Int32.ofNat i)).toNatClampNeg]? = some (.int (StrChars.lo8 (cs.getD i 0))) := Hh103.at hin103 (by rw [own_wn (by omega)]; exact StrChars.Road.low_at _ cs i hi)
  obtain ⟨fs, hr, hrun, hended, hW, hsame⟩ := X102.leave (v := some (.int (nar .char (((StrChars.lo8 (cs.getD i 0)) &&& (255 : Int32)).toUInt32.toUInt16.toUInt32.toInt32)))) (fun hq => by rw [Bd.returns] at hq; cases hq)
  refine ⟨_, _, pre0 _ ?_, hrun, hended, _, _, rfl, ?_, ⟨_, rfl⟩, hW, hsame.mono (by decide) (by decide)⟩
  · show SP pg ev below (s₁.setTop (mkF mi 0 #[.val (.ref t), .val (.int (Int32.ofNat i))] [])) _
    refine XS.iloadN X0.here hx rfl (hb hby dj46_0) rfl ?_
    refine XS.aloadN X0.here hx rfl (hb hby dj46_1) rfl rfl ?_
    refine X0.arraylength hx (cell := cl101) (by rw [eE]; exact Ar101.1) (State.isArrayOf_alike hZ.alike Ar101.2.1) (g := (mkF mi 2 #[.val (.ref t), .val (.int (Int32.ofNat i))] [(.ref t), (.int (Int32.ofNat i))])) rfl (rest := [(.int (Int32.ofNat i))]) rfl (hb hby dj46_2) _ ?_
    rw [len_of Sz101 Nn101]
    refine st102 _ ?_
    refine XS.aloadN X102.here hx rfl (hb hby dj46_6) rfl rfl ?_
    refine XS.iloadN X102.here hx rfl (hb hby dj46_7) rfl ?_
    refine X102.baloadBytes hx (j := (Int32.ofNat i)) (v := (.int (StrChars.lo8 (cs.getD i 0)))) (by rw [ek102]; exact Ar103.1) (State.isArrayOf_alike hZ.alike Ar103.2.1) Ar103.2.2 hin103 hat103 (g := (mkF mi 8 #[.val (.ref t), .val (.int (Int32.ofNat i))] [(.int (Int32.ofNat i)), (.ref t)])) rfl rfl (hb hby dj46_8) _ ?_
    refine XS.sipush X102.here hx rfl (hb hby dj46_9) ?_
    refine XS.iand X102.here hx rfl (hb hby dj46_12) rfl ?_
    refine XS.i2c X102.here hx rfl (hb hby dj46_13) rfl ?_
    show SP pg ev below (T102.setTop (mkF mi 14 #[.val (.ref t), .val (.int (Int32.ofNat i))] [(.int (((StrChars.lo8 (cs.getD i 0)) &&& (255 : Int32)).toUInt32.toUInt16.toUInt32.toInt32))])) _
    exact retN X102 hx (t := .char) Bd.returns (by simp) (hb hby dj46_14) hr
  · show Q_l1ch Z t kb cs i fm hE n0 _ T102.heap _
    rw [ek102]
    exact ⟨(congrArg (fun z => some (Value.int z)) (own_ch_back (hbl _ (own_getD_mem hi)))), N102, rfl⟩
theorem dj35_0 : decode jc35 0 = .ok (.iload_n 0, 1) := by decide +kernel
theorem dj35_1 : decode jc35 1 = .ok (.aload_n 1, 1) := by decide +kernel
theorem dj35_2 : decode jc35 2 = .ok (.invokestatic 48, 3) := by decide +kernel
theorem dj35_5 : decode jc35 5 = .ok (.invokestatic 414, 3) := by decide +kernel
theorem dj35_8 : decode jc35 8 = .ok (.return_, 1) := by decide +kernel
theorem ef_uchk (mi : MethodId) (t : Addr) (i : Nat) : entryFrame mi #[(.int (Int32.ofNat i)), (.ref t)] 2 = mkF mi 0 #[.val (.int (Int32.ofNat i)), .val (.ref t)] [] := rfl
def Q_uchk (Z : State) (t : Addr) (kt : ClassId) (cs : List Int32) (i : Nat) (fm : Value) (hE : Heap) (n0 : Nat) (vv : Option Value) (hh : Heap) (LL : List Loc) : Prop := (vv = none) ∧ (Fr n0 LL) ∧ (hh = hE)
theorem rm_uchk (hw : HW a0 Z) (ws : List Cond) (t : Addr) (kt : ClassId) (cs : List Int32) (i : Nat) (fm : Value) (hE : Heap) (n0 : Nat) (O : Old Z n0 hE) (P0_ : Arv Z hE t kt .byte (Int32.ofNat (2 * cs.length)) (StrChars.Road.wideBytes cs) (.int 0)) (D0_ : Sta Z Z.heap c3_ c7_ c4_ fm) (hi : i < cs.length) (hl : cs.length ≤ 4000) (hfm : fm.isRef = true) :
    MF la Z hE mn43 jc35 2 none ws (rr 2 0 0 27) #[(.int (Int32.ofNat i)), (.ref t)] (Q_uchk Z t kt cs i fm hE n0) := by
  refine MetFree.of_bodySF (plainFor_of_name pn_java_lang_StringUTF16) hisR ?_
  intro pg ev sb mi gs below me cd s₁ Bd hml0 hPt hKt
  obtain ⟨rfl, hZ, hh⟩ := hPt
  have hx := Bd.exec
  have hby := Bd.bytes
  have hml : cd.maxLocals = 2 := hml0
  have hown : sb.vm.findClass c1_ = some mi.cls := findClass_of_methodNamed Bd.named
  have X0 : Stand pg la ev (rr 2 0 0 27) sb mi #[(.int (Int32.ofNat i)), (.ref t)] below me cd s₁ [] 0 0 := Stand.of_body Bd
  have eE : s₁.heap = hE := by rw [← hh, Bd.state]; rfl
  have N0 := Fr.nil n0
  have pre0 : ∀ tt, SP pg ev below (s₁.setTop (mkF mi 0 #[.val (.int (Int32.ofNat i)), .val (.ref t)] [])) tt → SP pg ev below (s₁.setTop (entryFrame mi #[(.int (Int32.ofNat i)), (.ref t)] 2)) tt := fun tt kk => castTop (ef_uchk mi t i) kk
  obtain ⟨v101, _, ⟨T101, L101, k101, n101⟩, -, X101, ⟨Lc101, hQ101, l101, y101, z101⟩, st101⟩ := Jvm.LawKit.callS X0 hx (y := mn9) hown (mvT hZ (wd181 hw)) (mvT hZ (wd182 hw)) (mvT hZ (wd83 hw)) (mvT hZ (wd183 hw)) (by decide) (backOf (W := 1) (rm_ulen la Z a0 hw [] t kt cs hE n0 O P0_ (hl : cs.length ≤ 4000)) hZ (wd183 hw) (wd83 hw) (by decide) (by decide)) (g := (mkF mi 2 #[.val (.int (Int32.ofNat i)), .val (.ref t)] [(.ref t), (.int (Int32.ofNat i))])) rfl (by rw [hml]; rfl) (argsL := [(.ref t)]) (rest := [(.int (Int32.ofNat i))]) (lenOf pd_2 rfl) rfl (Nat.le_of_ble_eq_true rfl) (hb hby dj35_2) (fun _ _ => ⟨rfl, eE, (by decide : 0 + 0 ≤ _), (by decide : 0 + 0 ≤ _)⟩)
  dsimp only [Pt.U, Pt.locs, Pt.cells, Pt.slots] at X101 l101 y101 z101 st101 hQ101
  subst l101 y101 z101
  obtain ⟨rfl, Nq101, ek101⟩ := hQ101
  have N101 := Fr.app N0 Nq101
  obtain ⟨v102, _, ⟨T102, L102, k102, n102⟩, -, X102, ⟨Lc102, hQ102, l102, y102, z102⟩, st102⟩ := Jvm.LawKit.callS X101 hx (y := mn41) hown (mvT hZ (wd218 hw)) (mvT hZ (wd143 hw)) (mvT hZ (wd11 hw)) (mvT hZ (wd144 hw)) (by decide) (backOf (W := 0) (rm_schk la Z a0 hw [] (Int32.ofNat i) (Int32.ofNat cs.length) fm hE n0 O D0_ (own_nn8 (by omega) : ¬ ((Int32.ofNat i) < (0 : Int32))) ((own_lt8 (by omega) (by omega)).mpr hi : (Int32.ofNat i) < (Int32.ofNat cs.length)) (hfm : fm.isRef = true)) hZ (wd144 hw) (wd11 hw) (by decide) (by decide)) (g := (mkF mi 5 #[.val (.int (Int32.ofNat i)), .val (.ref t)] [(.int (Int32.ofNat cs.length)), (.int (Int32.ofNat i))])) rfl (by rw [hml]; rfl) (argsL := [(.int (Int32.ofNat i)), (.int (Int32.ofNat cs.length))]) (rest := []) (lenOf pd_19 rfl) rfl (Nat.le_of_ble_eq_true rfl) (hb hby dj35_5) (fun _ _ => ⟨rfl, ek101, (by decide : 0 + 0 ≤ _), (by decide : 0 + 0 ≤ _)⟩)
  dsimp only [Pt.U, Pt.locs, Pt.cells, Pt.slots] at X102 l102 y102 z102 st102 hQ102
  subst l102 y102 z102
  obtain ⟨rfl, Nq102, ek102⟩ := hQ102
  have N102 := Fr.app N101 Nq102
  obtain ⟨fs, hr, hrun, hended, hW, hsame⟩ := X102.leave (v := none) (fun _ => rfl)
  refine ⟨_, _, pre0 _ ?_, hrun, hended, _, _, rfl, ?_, ⟨_, rfl⟩, hW, hsame.mono (by decide) (by decide)⟩
  · show SP pg ev below (s₁.setTop (mkF mi 0 #[.val (.int (Int32.ofNat i)), .val (.ref t)] [])) _
    refine XS.iloadN X0.here hx rfl (hb hby dj35_0) rfl ?_
    refine XS.aloadN X0.here hx rfl (hb hby dj35_1) rfl rfl ?_
    refine st101 _ ?_
    refine st102 _ ?_
    show SP pg ev below (T102.setTop (mkF mi 8 #[.val (.int (Int32.ofNat i)), .val (.ref t)] [])) _
    exact X102.returnOut hx Bd.returns (hb hby dj35_8) hr
  · show Q_uchk Z t kt cs i fm hE n0 _ T102.heap _
    rw [ek102]
    exact ⟨rfl, N102, rfl⟩
theorem dj36_0 : decode jc36 0 = .ok (.iload_n 1, 1) := by decide +kernel
theorem dj36_1 : decode jc36 1 = .ok (.aload_n 0, 1) := by decide +kernel
theorem dj36_2 : decode jc36 2 = .ok (.invokestatic 67, 3) := by decide +kernel
theorem dj36_5 : decode jc36 5 = .ok (.aload_n 0, 1) := by decide +kernel
theorem dj36_6 : decode jc36 6 = .ok (.iload_n 1, 1) := by decide +kernel
theorem dj36_7 : decode jc36 7 = .ok (.invokestatic 71, 3) := by decide +kernel
theorem dj36_10 : decode jc36 10 = .ok (.ireturn, 1) := by decide +kernel
theorem pd_26 : parseMethodDescriptor "(I[B)V" = some ⟨[.int, (.array .byte)], none⟩ := by decide +kernel
theorem ef_uch (mi : MethodId) (t : Addr) (i : Nat) : entryFrame mi #[(.ref t), (.int (Int32.ofNat i))] 2 = mkF mi 0 #[.val (.ref t), .val (.int (Int32.ofNat i))] [] := rfl
def Q_uch (Z : State) (t : Addr) (kt : ClassId) (cs : List Int32) (i : Nat) (fm : Value) (hE : Heap) (n0 : Nat) (vv : Option Value) (hh : Heap) (LL : List Loc) : Prop := (vv = some (.int (cs.getD i 0))) ∧ (Fr n0 LL) ∧ (hh = hE)
theorem rm_uch (hw : HW a0 Z) (ws : List Cond) (t : Addr) (kt : ClassId) (cs : List Int32) (i : Nat) (fm : Value) (hE : Heap) (n0 : Nat) (O : Old Z n0 hE) (P0_ : Arv Z hE t kt .byte (Int32.ofNat (2 * cs.length)) (StrChars.Road.wideBytes cs) (.int 0)) (D0_ : Sta Z Z.heap c1_ c6_ "Z" (.int 1)) (D1_ : Sta Z Z.heap c1_ c9_ "I" (.int 0)) (D2_ : Sta Z Z.heap c1_ c10_ "I" (.int 8)) (D3_ : Sta Z Z.heap c3_ c7_ c4_ fm) (hi : i < cs.length) (hl : cs.length ≤ 4000) (hbd : ∀ c ∈ cs, ¬ c < 0 ∧ ¬ (65535 : Int32) < c) (hfm : fm.isRef = true) :
    MF la Z hE mn44 jc36 2 (some .char) ws (rr 3 0 0 40) #[(.ref t), (.int (Int32.ofNat i))] (Q_uch Z t kt cs i fm hE n0) := by
  refine MetFree.of_bodySF (plainFor_of_name pn_java_lang_StringUTF16) hisR ?_
  intro pg ev sb mi gs below me cd s₁ Bd hml0 hPt hKt
  obtain ⟨rfl, hZ, hh⟩ := hPt
  have hx := Bd.exec
  have hby := Bd.bytes
  have hml : cd.maxLocals = 2 := hml0
  have hown : sb.vm.findClass c1_ = some mi.cls := findClass_of_methodNamed Bd.named
  have X0 : Stand pg la ev (rr 3 0 0 40) sb mi #[(.ref t), (.int (Int32.ofNat i))] below me cd s₁ [] 0 0 := Stand.of_body Bd
  have eE : s₁.heap = hE := by rw [← hh, Bd.state]; rfl
  have N0 := Fr.nil n0
  have pre0 : ∀ tt, SP pg ev below (s₁.setTop (mkF mi 0 #[.val (.ref t), .val (.int (Int32.ofNat i))] [])) tt → SP pg ev below (s₁.setTop (entryFrame mi #[(.ref t), (.int (Int32.ofNat i))] 2)) tt := fun tt kk => castTop (ef_uch mi t i) kk
  obtain ⟨v101, _, ⟨T101, L101, k101, n101⟩, -, X101, ⟨Lc101, hQ101, l101, y101, z101⟩, st101⟩ := Jvm.LawKit.callS X0 hx (y := mn43) hown (mvT hZ (wd215 hw)) (mvT hZ (wd216 hw)) (mvT hZ (wd83 hw)) (mvT hZ (wd217 hw)) (by decide) (backOf (W := 0) (rm_uchk la Z a0 hw [] t kt cs i fm hE n0 O P0_ D3_ (hi : i < cs.length) (hl : cs.length ≤ 4000) (hfm : fm.isRef = true)) hZ (wd217 hw) (wd83 hw) (by decide) (by decide)) (g := (mkF mi 2 #[.val (.ref t), .val (.int (Int32.ofNat i))] [(.ref t), (.int (Int32.ofNat i))])) rfl (by rw [hml]; rfl) (argsL := [(.int (Int32.ofNat i)), (.ref t)]) (rest := []) (lenOf pd_26 rfl) rfl (Nat.le_of_ble_eq_true rfl) (hb hby dj36_2) (fun _ _ => ⟨rfl, eE, (by decide : 0 + 0 ≤ _), (by decide : 0 + 0 ≤ _)⟩)
  dsimp only [Pt.U, Pt.locs, Pt.cells, Pt.slots] at X101 l101 y101 z101 st101 hQ101
  subst l101 y101 z101
  obtain ⟨rfl, Nq101, ek101⟩ := hQ101
  have N101 := Fr.app N0 Nq101
  obtain ⟨v102, _, ⟨T102, L102, k102, n102⟩, -, X102, ⟨Lc102, hQ102, l102, y102, z102⟩, st102⟩ := Jvm.LawKit.callS X101 hx (y := mn0) hown (mvT hZ (wd166 hw)) (mvT hZ (wd167 hw)) (mvT hZ (wd83 hw)) (mvT hZ (wd168 hw)) (by decide) (backOf (W := 0) (rm_gch la Z a0 hw [] t (Int32.ofNat i) kt cs i hE n0 O P0_ D0_ D1_ D2_ (rfl : (Int32.ofNat i) = Int32.ofNat i) (hi : i < cs.length) (hl : cs.length ≤ 4000) (hbd : ∀ c ∈ cs, ¬ c < 0 ∧ ¬ (65535 : Int32) < c)) hZ (wd168 hw) (wd83 hw) (by decide) (by decide)) (g := (mkF mi 7 #[.val (.ref t), .val (.int (Int32.ofNat i))] [(.int (Int32.ofNat i)), (.ref t)])) rfl (by rw [hml]; rfl) (argsL := [(.ref t), (.int (Int32.ofNat i))]) (rest := []) (lenOf pd_10 rfl) rfl (Nat.le_of_ble_eq_true rfl) (hb hby dj36_7) (fun _ _ => ⟨rfl, ek101, (by decide : 0 + 0 ≤ _), (by decide : 0 + 0 ≤ _)⟩)
  dsimp only [Pt.U, Pt.locs, Pt.cells, Pt.slots] at X102 l102 y102 z102 st102 hQ102
  subst l102 y102 z102
  obtain ⟨rfl, Nq102, ek102⟩ := hQ102
  have N102 := Fr.app N101 Nq102
  obtain ⟨fs, hr, hrun, hended, hW, hsame⟩ := X102.leave (v := some (.int (nar .char (cs.getD i 0)))) (fun hq => by rw [Bd.returns] at hq; cases hq)
  refine ⟨_, _, pre0 _ ?_, hrun, hended, _, _, rfl, ?_, ⟨_, rfl⟩, hW, hsame.mono (by decide) (by decide)⟩
  · show SP pg ev below (s₁.setTop (mkF mi 0 #[.val (.ref t), .val (.int (Int32.ofNat i))] [])) _
    refine XS.iloadN X0.here hx rfl (hb hby dj36_0) rfl ?_
    refine XS.aloadN X0.here hx rfl (hb hby dj36_1) rfl rfl ?_
    refine st101 _ ?_
    refine XS.aloadN X101.here hx rfl (hb hby dj36_5) rfl rfl ?_
    refine XS.iloadN X101.here hx rfl (hb hby dj36_6) rfl ?_
    refine st102 _ ?_
    show SP pg ev below (T102.setTop (mkF mi 10 #[.val (.ref t), .val (.int (Int32.ofNat i))] [(.int (cs.getD i 0))])) _
    exact retN X102 hx (t := .char) Bd.returns (by simp) (hb hby dj36_10) hr
  · show Q_uch Z t kt cs i fm hE n0 _ T102.heap _
    rw [ek102]
    exact ⟨(congrArg (fun z => some (Value.int z)) (own_nar_w (hbd _ (own_getD_mem hi)))), N102, rfl⟩
theorem dj37_0 : decode jc37 0 = .ok (.aload_n 0, 1) := by decide +kernel
theorem dj37_1 : decode jc37 1 = .ok (.invokevirtual 492, 3) := by decide +kernel
theorem dj37_4 : decode jc37 4 = .ok (.ifCond .eq 12, 3) := by decide +kernel
theorem dj37_7 : decode jc37 7 = .ok (.aload_n 0, 1) := by decide +kernel
theorem dj37_8 : decode jc37 8 = .ok (.getfield 9, 3) := by decide +kernel
theorem dj37_11 : decode jc37 11 = .ok (.iload_n 1, 1) := by decide +kernel
theorem dj37_12 : decode jc37 12 = .ok (.invokestatic 495, 3) := by decide +kernel
theorem dj37_15 : decode jc37 15 = .ok (.ireturn, 1) := by decide +kernel
theorem dj37_16 : decode jc37 16 = .ok (.aload_n 0, 1) := by decide +kernel
theorem dj37_17 : decode jc37 17 = .ok (.getfield 9, 3) := by decide +kernel
theorem dj37_20 : decode jc37 20 = .ok (.iload_n 1, 1) := by decide +kernel
theorem dj37_21 : decode jc37 21 = .ok (.invokestatic 498, 3) := by decide +kernel
theorem dj37_24 : decode jc37 24 = .ok (.ireturn, 1) := by decide +kernel
theorem ef_wch (mi : MethodId) (x : Addr) (i : Nat) : entryFrame mi #[(.ref x), (.int (Int32.ofNat i))] 2 = mkF mi 0 #[.val (.ref x), .val (.int (Int32.ofNat i))] [] := rfl
def Q_wch (Z : State) (x t : Addr) (cs : List Int32) (i : Nat) (zc : Int32) (fm : Value) (hE : Heap) (n0 : Nat) (vv : Option Value) (hh : Heap) (LL : List Loc) : Prop := (vv = some (.int (cs.getD i 0))) ∧ (Fr n0 LL) ∧ (hh = hE)
theorem rm_wch (hw : HW a0 Z) (ws : List Cond) (x t : Addr) (cs : List Int32) (i : Nat) (zc : Int32) (fm : Value) (hE : Heap) (n0 : Nat) (O : Old Z n0 hE) (P0_ : WStr Z hE x t cs) (D0_ : Sta Z Z.heap c0_ c8_ "Z" (.int zc)) (D1_ : Sta Z Z.heap c3_ c7_ c4_ fm) (D2_ : Sta Z Z.heap c1_ c6_ "Z" (.int 1)) (D3_ : Sta Z Z.heap c1_ c9_ "I" (.int 0)) (D4_ : Sta Z Z.heap c1_ c10_ "I" (.int 8)) (hi : i < cs.length) (hzc : ¬ (zc = (0 : Int32))) (hfm : fm.isRef = true) :
    MF la Z hE mn45 jc37 2 (some .char) ws (rr 4 0 0 53) #[(.ref x), (.int (Int32.ofNat i))] (Q_wch Z x t cs i zc fm hE n0) := by
  refine MetFree.of_bodySF (plainFor_of_name pn_java_lang_String) hisR ?_
  intro pg ev sb mi gs below me cd s₁ Bd hml0 hPt hKt
  obtain ⟨rfl, hZ, hh⟩ := hPt
  have hx := Bd.exec
  have hby := Bd.bytes
  have hml : cd.maxLocals = 2 := hml0
  have hown : sb.vm.findClass c0_ = some mi.cls := findClass_of_methodNamed Bd.named
  have X0 : Stand pg la ev (rr 4 0 0 53) sb mi #[(.ref x), (.int (Int32.ofNat i))] below me cd s₁ [] 0 0 := Stand.of_body Bd
  have eE : s₁.heap = hE := by rw [← hh, Bd.state]; rfl
  have N0 := Fr.nil n0
  have pre0 : ∀ tt, SP pg ev below (s₁.setTop (mkF mi 0 #[.val (.ref x), .val (.int (Int32.ofNat i))] [])) tt → SP pg ev below (s₁.setTop (entryFrame mi #[(.ref x), (.int (Int32.ofNat i))] 2)) tt := fun tt kk => castTop (ef_wch mi x i) kk
  obtain ⟨wE101, wV101, ⟨cd101, N2101, vs101, kb101, wC101, wK101, wc101⟩, wb101, wl101⟩ := id P0_
  rcases wc101 with ⟨rfl, rfl, rfl, hq101⟩ | ⟨rfl, rfl, rfl, hq101⟩
  · obtain ⟨cq102, kq102, q102a, q102b, q102c⟩ := isOf hZ eE wE101
    obtain ⟨v102, _, ⟨T102, L102, k102, n102⟩, -, X102, ⟨Lc102, hQ102, l102, y102, z102⟩, st102⟩ := X0.virtualBack hx (y := mn4) (z := mn4) hown (mvT hZ (wd44 hw)) (mvT hZ (wd45 hw)) (notFace_of_selects (args := #[]) (mvT hZ (wd47 hw))) (mvT hZ (wd47 hw)) (mvT hZ (wd46 hw)) (by decide) (backOf (W := 0) (rm_islA la Z a0 hw [] x zc hE n0 O wC101 D0_ (hzc : ¬ (zc = (0 : Int32)))) hZ (wd48 hw) (wd11 hw) (by decide) (by decide)) q102a q102c (g := (mkF mi 1 #[.val (.ref x), .val (.int (Int32.ofNat i))] [(.ref x)])) rfl (by rw [hml]; rfl) (Steps.refl _) (argsL := []) (rest := []) (lenOf pd_17 rfl) rfl (Nat.le_of_ble_eq_true rfl) (hb hby dj37_1) (fun _ _ => ⟨rfl, eE, (by decide : 0 + 0 ≤ _), (by decide : 0 + 0 ≤ _)⟩)
    dsimp only [Pt.U, Pt.locs, Pt.cells, Pt.slots] at X102 l102 y102 z102 st102 hQ102
    subst l102 y102 z102
    obtain ⟨rfl, Nq102, ek102⟩ := hQ102
    have N102 := Fr.app N0 Nq102
    obtain ⟨T103, X103, e103, st103⟩ := getF X102 hx hZ hown (host := "") (Or.inl (wd28 hw)) Via.refl ek102 wV101 (g := (mkF mi 8 #[.val (.ref x), .val (.int (Int32.ofNat i))] [(.ref x)])) rfl rfl (hb hby dj37_8)
    obtain ⟨v104, _, ⟨T104, L104, k104, n104⟩, -, X104, ⟨Lc104, hQ104, l104, y104, z104⟩, st104⟩ := Jvm.LawKit.callS X103 hx (y := mn42) hown (mvT hZ (wd139 hw)) (mvT hZ (wd140 hw)) (mvT hZ (wd62 hw)) (mvT hZ (wd141 hw)) (by decide) (backOf (W := 0) (rm_l1ch la Z a0 hw [] t kb101 cs i fm hE n0 O wK101 D1_ (hi : i < cs.length) (wl101 : cs.length ≤ 4000) (fun c hc => ⟨(wb101 c hc).1, hq101 c hc⟩ : ∀ c ∈ cs, ¬ c < 0 ∧ ¬ (255 : Int32) < c) (hfm : fm.isRef = true)) hZ (wd141 hw) (wd62 hw) (by decide) (by decide)) (g := (mkF mi 12 #[.val (.ref x), .val (.int (Int32.ofNat i))] [(.int (Int32.ofNat i)), (.ref t)])) rfl (by rw [hml]; rfl) (argsL := [(.ref t), (.int (Int32.ofNat i))]) (rest := []) (lenOf pd_10 rfl) rfl (Nat.le_of_ble_eq_true rfl) (hb hby dj37_12) (fun _ _ => ⟨rfl, e103, (by decide : 0 + 0 ≤ _), (by decide : 0 + 0 ≤ _)⟩)
    dsimp only [Pt.U, Pt.locs, Pt.cells, Pt.slots] at X104 l104 y104 z104 st104 hQ104
    subst l104 y104 z104
    obtain ⟨rfl, Nq104, ek104⟩ := hQ104
    have N104 := Fr.app N102 Nq104
    obtain ⟨fs, hr, hrun, hended, hW, hsame⟩ := X104.leave (v := some (.int (nar .char (cs.getD i 0)))) (fun hq => by rw [Bd.returns] at hq; cases hq)
    refine ⟨_, _, pre0 _ ?_, hrun, hended, _, _, rfl, ?_, ⟨_, rfl⟩, hW, hsame.mono (by decide) (by decide)⟩
    · show SP pg ev below (s₁.setTop (mkF mi 0 #[.val (.ref x), .val (.int (Int32.ofNat i))] [])) _
      refine XS.aloadN X0.here hx rfl (hb hby dj37_0) rfl rfl ?_
      refine st102.trans ?_
      refine XS.ifNo X102.here hx rfl (hb hby dj37_4) rfl ((if0 _ _).trans (feq (by decide : ¬ ((1 : Int32) = (0 : Int32)))).1) ?_
      refine XS.aloadN X102.here hx rfl (hb hby dj37_7) rfl rfl ?_
      refine st103 _ ?_
      refine XS.iloadN X103.here hx rfl (hb hby dj37_11) rfl ?_
      refine st104 _ ?_
      show SP pg ev below (T104.setTop (mkF mi 15 #[.val (.ref x), .val (.int (Int32.ofNat i))] [(.int (cs.getD i 0))])) _
      exact retN X104 hx (t := .char) Bd.returns (by simp) (hb hby dj37_15) hr
    · show Q_wch Z x t cs i zc fm hE n0 _ T104.heap _
      rw [ek104]
      exact ⟨(congrArg (fun z => some (Value.int z)) (own_nar_w (wb101 _ (own_getD_mem hi)))), N104, rfl⟩
  · obtain ⟨cq105, kq105, q105a, q105b, q105c⟩ := isOf hZ eE wE101
    obtain ⟨v105, _, ⟨T105, L105, k105, n105⟩, -, X105, ⟨Lc105, hQ105, l105, y105, z105⟩, st105⟩ := X0.virtualBack hx (y := mn4) (z := mn4) hown (mvT hZ (wd44 hw)) (mvT hZ (wd45 hw)) (notFace_of_selects (args := #[]) (mvT hZ (wd47 hw))) (mvT hZ (wd47 hw)) (mvT hZ (wd46 hw)) (by decide) (backOf (W := 0) (rm_islB la Z a0 hw [] x zc hE n0 O wC101 D0_ (hzc : ¬ (zc = (0 : Int32)))) hZ (wd48 hw) (wd11 hw) (by decide) (by decide)) q105a q105c (g := (mkF mi 1 #[.val (.ref x), .val (.int (Int32.ofNat i))] [(.ref x)])) rfl (by rw [hml]; rfl) (Steps.refl _) (argsL := []) (rest := []) (lenOf pd_17 rfl) rfl (Nat.le_of_ble_eq_true rfl) (hb hby dj37_1) (fun _ _ => ⟨rfl, eE, (by decide : 0 + 0 ≤ _), (by decide : 0 + 0 ≤ _)⟩)
    dsimp only [Pt.U, Pt.locs, Pt.cells, Pt.slots] at X105 l105 y105 z105 st105 hQ105
    subst l105 y105 z105
    obtain ⟨rfl, Nq105, ek105⟩ := hQ105
    have N105 := Fr.app N0 Nq105
    obtain ⟨T106, X106, e106, st106⟩ := getF X105 hx hZ hown (host := "") (Or.inl (wd28 hw)) Via.refl ek105 wV101 (g := (mkF mi 17 #[.val (.ref x), .val (.int (Int32.ofNat i))] [(.ref x)])) rfl rfl (hb hby dj37_17)
    obtain ⟨v107, _, ⟨T107, L107, k107, n107⟩, -, X107, ⟨Lc107, hQ107, l107, y107, z107⟩, st107⟩ := Jvm.LawKit.callS X106 hx (y := mn44) hown (mvT hZ (wd212 hw)) (mvT hZ (wd213 hw)) (mvT hZ (wd83 hw)) (mvT hZ (wd214 hw)) (by decide) (backOf (W := 0) (rm_uch la Z a0 hw [] t kb101 cs i fm hE n0 O wK101 D2_ D3_ D4_ D1_ (hi : i < cs.length) (wl101 : cs.length ≤ 4000) (wb101 : ∀ c ∈ cs, ¬ c < 0 ∧ ¬ (65535 : Int32) < c) (hfm : fm.isRef = true)) hZ (wd214 hw) (wd83 hw) (by decide) (by decide)) (g := (mkF mi 21 #[.val (.ref x), .val (.int (Int32.ofNat i))] [(.int (Int32.ofNat i)), (.ref t)])) rfl (by rw [hml]; rfl) (argsL := [(.ref t), (.int (Int32.ofNat i))]) (rest := []) (lenOf pd_10 rfl) rfl (Nat.le_of_ble_eq_true rfl) (hb hby dj37_21) (fun _ _ => ⟨rfl, e106, (by decide : 0 + 0 ≤ _), (by decide : 0 + 0 ≤ _)⟩)
    dsimp only [Pt.U, Pt.locs, Pt.cells, Pt.slots] at X107 l107 y107 z107 st107 hQ107
    subst l107 y107 z107
    obtain ⟨rfl, Nq107, ek107⟩ := hQ107
    have N107 := Fr.app N105 Nq107
    obtain ⟨fs, hr, hrun, hended, hW, hsame⟩ := X107.leave (v := some (.int (nar .char (cs.getD i 0)))) (fun hq => by rw [Bd.returns] at hq; cases hq)
    refine ⟨_, _, pre0 _ ?_, hrun, hended, _, _, rfl, ?_, ⟨_, rfl⟩, hW, hsame.mono (by decide) (by decide)⟩
    · show SP pg ev below (s₁.setTop (mkF mi 0 #[.val (.ref x), .val (.int (Int32.ofNat i))] [])) _
      refine XS.aloadN X0.here hx rfl (hb hby dj37_0) rfl rfl ?_
      refine st105.trans ?_
      refine XS.ifYes X105.here hx rfl (pc0 := 4) (pc' := 16) rfl (hb hby dj37_4) rfl ((if0 _ _).trans (teq (rfl : (0 : Int32) = (0 : Int32))).1) (by decide) (by decide) ?_
      refine XS.aloadN X105.here hx rfl (hb hby dj37_16) rfl rfl ?_
      refine st106 _ ?_
      refine XS.iloadN X106.here hx rfl (hb hby dj37_20) rfl ?_
      refine st107 _ ?_
      show SP pg ev below (T107.setTop (mkF mi 24 #[.val (.ref x), .val (.int (Int32.ofNat i))] [(.int (cs.getD i 0))])) _
      exact retN X107 hx (t := .char) Bd.returns (by simp) (hb hby dj37_24) hr
    · show Q_wch Z x t cs i zc fm hE n0 _ T107.heap _
      rw [ek107]
      exact ⟨(congrArg (fun z => some (Value.int z)) (own_nar_w (wb101 _ (own_getD_mem hi)))), N107, rfl⟩

def cnL : List Int32 → List Int32
  | [] => []
  | c :: r => if c = (35 : Int32) then [] else c :: cnL r
theorem own_ix (cs : List Int32) : ∀ k, (ixG k cs = -1 ∧ cnL cs = cs) ∨ (∃ m, m < cs.length ∧ ixG k cs = Int32.ofNat (k + m) ∧ cnL cs = cs.take m) := by
  induction cs with
  | nil => exact fun k => Or.inl ⟨rfl, rfl⟩
  | cons c r ih =>
    intro k
    by_cases h : c = (35 : Int32)
    · exact Or.inr ⟨0, Nat.succ_pos _, by rw [ixG, if_pos h, Nat.add_zero], by rw [cnL, if_pos h]; rfl⟩
    · rcases ih (k + 1) with ⟨a, b⟩ | ⟨m, a, b, d⟩
      · exact Or.inl ⟨by rw [ixG, if_neg h]; exact a, by rw [cnL, if_neg h, b]⟩
      · exact Or.inr ⟨m + 1, Nat.succ_lt_succ a, by rw [ixG, if_neg h, b]; congr 1; omega, by rw [cnL, if_neg h, d]; rfl⟩
theorem own_cn_neg {cs : List Int32} (h4 : cs.length ≤ 4) (h : ixG 0 cs < 0) : cnL cs = cs := by
  rcases own_ix cs 0 with ⟨-, b⟩ | ⟨m, a, b, -⟩
  · exact b
  · rw [b] at h; exact absurd h (own_nn8 (by omega))
theorem own_cn_pos {cs : List Int32} (h4 : cs.length ≤ 4) (h : ¬ ixG 0 cs < 0) : ∃ m, ixG 0 cs = Int32.ofNat m ∧ m < cs.length ∧ cnL cs = cs.take m := by
  rcases own_ix cs 0 with ⟨b, -⟩ | ⟨m, a, b, d⟩
  · rw [b] at h; exact absurd (by decide) h
  · exact ⟨m, by rw [b, Nat.zero_add], a, d⟩

def caL (cs : List Int32) : List Int32 := if ixG 0 cs < 0 then cs else cs.drop ((ixG 0 cs).toNatClampNeg + 1)
theorem own_ff {cs : List Int32} (h4 : cs.length ≤ 4) : ∃ ff, (if (ixG 0 cs) < (0 : Int32) then (0 : Int32) else ((ixG 0 cs) + (1 : Int32))) = Int32.ofNat ff ∧ ff ≤ cs.length ∧ caL cs = cs.drop ff := by
  rcases own_ix cs 0 with ⟨a, -⟩ | ⟨m, a, b, -⟩
  · refine ⟨0, ?_, Nat.zero_le _, ?_⟩
    · rw [a]; rfl
    · unfold caL; rw [a, if_pos (by decide)]; rfl
  · rw [Nat.zero_add] at b
    have hn : ¬ Int32.ofNat m < 0 := own_nn8 (by omega)
    refine ⟨m + 1, ?_, a, ?_⟩
    · rw [b, if_neg hn]; exact own_add32 m 1
    · unfold caL; rw [b, if_neg hn, own_wn (by omega)]
def drF (q : Int32) : Int32 := if (((q.toUInt32 >>> ((16 : Int32) &&& 31).toUInt32).toInt32) &&& (3 : Int32)) = (0 : Int32) then 35 else nar .char ((q &&& (65535 : Int32)).toUInt32.toUInt16.toUInt32.toInt32)
theorem own_dr (q : Int32) : ¬ drF q < 0 ∧ ¬ (65535 : Int32) < drF q := by
  unfold drF; split
  · exact ⟨by decide, by decide⟩
  · exact own_nar_rng _
theorem own_rem5n (q : Int32) : ∃ nn, ((q &&& (2147483647 : Int32)) % (5 : Int32)) = Int32.ofNat nn ∧ nn ≤ 4 := by
  have h0 : 0 ≤ (q &&& (2147483647 : Int32)).toInt := by
    have e : (q &&& (2147483647 : Int32)).toBitVec.msb = false := by rw [Int32.toBitVec_and, BitVec.msb_and, show (2147483647 : Int32).toBitVec.msb = false from by decide]; simp
    show 0 ≤ (q &&& (2147483647 : Int32)).toBitVec.toInt
    rw [BitVec.toInt_eq_msb_cond, e]; simp
  have h1 : ((q &&& (2147483647 : Int32)) % (5 : Int32)).toInt = (q &&& (2147483647 : Int32)).toInt % 5 := by
    rw [Int32.toInt_mod, show (5 : Int32).toInt = 5 from by decide, Int.tmod_eq_emod_of_nonneg h0]
  refine ⟨((q &&& (2147483647 : Int32)).toInt % 5).toNat, ?_, by omega⟩
  apply Int32.toInt_inj.mp
  rw [h1, Int32.toInt_ofNat_small (by omega)]; omega
theorem own_vget {c0 c1 c2 c3 : Int32} {k : Nat} {d : Value} (h : k < 4) : ([.int c0, .int c1, .int c2, .int c3] : List Value).getD k d = .int (([c0, c1, c2, c3] : List Int32).getD k 0) := by
  obtain rfl | rfl | rfl | rfl : k = 0 ∨ k = 1 ∨ k = 2 ∨ k = 3 := by omega
  all_goals rfl
theorem own_dtg {l : List Int32} {n f k : Nat} (h : f + k < n) : ((l.take n).drop f).getD k 0 = l.getD (f + k) 0 := by simp [List.getD_eq_getElem?_getD, List.getElem?_drop, List.getElem?_take, h]
theorem own_dtl {c0 c1 c2 c3 : Int32} {n f : Nat} (h : n ≤ 4) : ((([c0, c1, c2, c3] : List Int32).take n).drop f).length = n - f := by
  rw [List.length_drop, List.length_take]; show min n 4 - f = n - f; omega

theorem dj47_0 : decode jc47 0 = .ok (.iload_n 0, 1) := by decide +kernel
theorem dj47_1 : decode jc47 1 = .ok (.bipush 16, 2) := by decide +kernel
theorem dj47_3 : decode jc47 3 = .ok (.iushr, 1) := by decide +kernel
theorem dj47_4 : decode jc47 4 = .ok (.iconst 3, 1) := by decide +kernel
theorem dj47_5 : decode jc47 5 = .ok (.iand, 1) := by decide +kernel
theorem dj47_6 : decode jc47 6 = .ok (.ifCond .ne 8, 3) := by decide +kernel
theorem dj47_9 : decode jc47 9 = .ok (.bipush 35, 2) := by decide +kernel
theorem dj47_11 : decode jc47 11 = .ok (.goto 8, 3) := by decide +kernel
theorem dj47_14 : decode jc47 14 = .ok (.iload_n 0, 1) := by decide +kernel
theorem dj47_15 : decode jc47 15 = .ok (.ldc 32, 2) := by decide +kernel
theorem dj47_17 : decode jc47 17 = .ok (.iand, 1) := by decide +kernel
theorem dj47_18 : decode jc47 18 = .ok (.i2c, 1) := by decide +kernel
theorem dj47_19 : decode jc47 19 = .ok (.ireturn, 1) := by decide +kernel
theorem pn_com_example_detangle_detangle_TestListCaseNamePinLaw : plainName "com/example/detangle/detangle/TestListCaseNamePinLaw" = true := by first | (simp [plainName, overriddenIn]; done) | decide +kernel
theorem ef_drw (mi : MethodId) (q : Int32) : entryFrame mi #[(.int q)] 1 = mkF mi 0 #[.val (.int q)] [] := rfl
def Q_drw (Z : State) (q : Int32) (hE : Heap) (n0 : Nat) (vv : Option Value) (hh : Heap) (LL : List Loc) : Prop := (vv = some (.int (drF q))) ∧ (Fr n0 LL) ∧ (hh = hE)
theorem rm_drw (hw : HW a0 Z) (ws : List Cond) (q : Int32) (hE : Heap) (n0 : Nat) (O : Old Z n0 hE) :
    MF la Z hE mn46 jc47 1 (some .char) ws (rr 0 0 0 0) #[(.int q)] (Q_drw Z q hE n0) := by
  refine MetFree.of_bodySF (plainFor_of_name pn_com_example_detangle_detangle_TestListCaseNamePinLaw) hisR ?_
  intro pg ev sb mi gs below me cd s₁ Bd hml0 hPt hKt
  obtain ⟨rfl, hZ, hh⟩ := hPt
  have hx := Bd.exec
  have hby := Bd.bytes
  have hml : cd.maxLocals = 1 := hml0
  have hown : sb.vm.findClass c2_ = some mi.cls := findClass_of_methodNamed Bd.named
  have X0 : Stand pg la ev (rr 0 0 0 0) sb mi #[(.int q)] below me cd s₁ [] 0 0 := Stand.of_body Bd
  have eE : s₁.heap = hE := by rw [← hh, Bd.state]; rfl
  have N0 := Fr.nil n0
  have pre0 : ∀ tt, SP pg ev below (s₁.setTop (mkF mi 0 #[.val (.int q)] [])) tt → SP pg ev below (s₁.setTop (entryFrame mi #[(.int q)] 1)) tt := fun tt kk => castTop (ef_drw mi q) kk
  have pre102 : ∀ tt, SP pg ev below (s₁.setTop (mkF mi 6 #[.val (.int q)] [(.int (((q.toUInt32 >>> ((16 : Int32) &&& 31).toUInt32).toInt32) &&& (3 : Int32)))])) tt → SP pg ev below (s₁.setTop (entryFrame mi #[(.int q)] 1)) tt := fun tt kk => pre0 _ (by
    show SP pg ev below (s₁.setTop (mkF mi 0 #[.val (.int q)] [])) _
    refine XS.iloadN X0.here hx rfl (hb hby dj47_0) rfl ?_
    refine XS.bipush X0.here hx rfl (hb hby dj47_1) ?_
    refine XS.iushr X0.here hx rfl (hb hby dj47_3) rfl ?_
    refine XS.iconst X0.here hx rfl (hb hby dj47_4) ?_
    refine XS.iand X0.here hx rfl (hb hby dj47_5) rfl ?_
    exact kk)
  by_cases hc101 : (((q.toUInt32 >>> ((16 : Int32) &&& 31).toUInt32).toInt32) &&& (3 : Int32)) = (0 : Int32)
  · obtain ⟨fs, hr, hrun, hended, hW, hsame⟩ := X0.leave (v := some (.int 35)) (fun hq => by rw [Bd.returns] at hq; cases hq)
    refine ⟨_, _, pre102 _ ?_, hrun, hended, _, _, rfl, ?_, ⟨_, rfl⟩, hW, hsame.mono (by decide) (by decide)⟩
    · show SP pg ev below (s₁.setTop (mkF mi 6 #[.val (.int q)] [(.int (((q.toUInt32 >>> ((16 : Int32) &&& 31).toUInt32).toInt32) &&& (3 : Int32)))])) _
      refine XS.ifNo X0.here hx rfl (hb hby dj47_6) rfl ((if0 _ _).trans (teq hc101).2) ?_
      refine XS.bipush X0.here hx rfl (hb hby dj47_9) ?_
      refine XS.goto X0.here hx rfl (pc0 := 11) (pc' := 19) rfl (hb hby dj47_11) (by decide) (by decide) ?_
      show SP pg ev below (s₁.setTop (mkF mi 19 #[.val (.int q)] [(.int 35)])) _
      exact retN X0 hx (t := .char) Bd.returns (by simp) (hb hby dj47_19) hr
    · show Q_drw Z q hE n0 _ s₁.heap _
      rw [eE]
      exact ⟨(by show some (Value.int 35) = some (Value.int (drF q)); unfold drF; rw [if_pos hc101]), N0, rfl⟩
  · obtain ⟨fs, hr, hrun, hended, hW, hsame⟩ := X0.leave (v := some (.int (nar .char ((q &&& (65535 : Int32)).toUInt32.toUInt16.toUInt32.toInt32)))) (fun hq => by rw [Bd.returns] at hq; cases hq)
    refine ⟨_, _, pre102 _ ?_, hrun, hended, _, _, rfl, ?_, ⟨_, rfl⟩, hW, hsame.mono (by decide) (by decide)⟩
    · show SP pg ev below (s₁.setTop (mkF mi 6 #[.val (.int q)] [(.int (((q.toUInt32 >>> ((16 : Int32) &&& 31).toUInt32).toInt32) &&& (3 : Int32)))])) _
      refine XS.ifYes X0.here hx rfl (pc0 := 6) (pc' := 14) rfl (hb hby dj47_6) rfl ((if0 _ _).trans (feq hc101).2) (by decide) (by decide) ?_
      refine XS.iloadN X0.here hx rfl (hb hby dj47_14) rfl ?_
      refine X0.ldcInt hx hown (mvT hZ (wd149 hw)) (g := (mkF mi 15 #[.val (.int q)] [(.int q)])) rfl (hb hby dj47_15) _ ?_
      refine XS.iand X0.here hx rfl (hb hby dj47_17) rfl ?_
      refine XS.i2c X0.here hx rfl (hb hby dj47_18) rfl ?_
      show SP pg ev below (s₁.setTop (mkF mi 19 #[.val (.int q)] [(.int ((q &&& (65535 : Int32)).toUInt32.toUInt16.toUInt32.toInt32))])) _
      exact retN X0 hx (t := .char) Bd.returns (by simp) (hb hby dj47_19) hr
    · show Q_drw Z q hE n0 _ s₁.heap _
      rw [eE]
      exact ⟨(by show some (Value.int (nar .char ((q &&& (65535 : Int32)).toUInt32.toUInt16.toUInt32.toInt32))) = some (Value.int (drF q)); unfold drF; rw [if_neg hc101]), N0, rfl⟩
theorem dj48_0 : decode jc48 0 = .ok (.iload_n 1, 1) := by decide +kernel
theorem dj48_1 : decode jc48 1 = .ok (.ifCond .ne 14, 3) := by decide +kernel
theorem dj48_4 : decode jc48 4 = .ok (.new 33, 3) := by decide +kernel
theorem dj48_7 : decode jc48 7 = .ok (.dup, 1) := by decide +kernel
theorem dj48_8 : decode jc48 8 = .ok (.iconst 0, 1) := by decide +kernel
theorem dj48_9 : decode jc48 9 = .ok (.newarray .char, 2) := by decide +kernel
theorem dj48_11 : decode jc48 11 = .ok (.invokespecial 35, 3) := by decide +kernel
theorem dj48_14 : decode jc48 14 = .ok (.areturn, 1) := by decide +kernel
theorem dj48_15 : decode jc48 15 = .ok (.iload_n 1, 1) := by decide +kernel
theorem dj48_16 : decode jc48 16 = .ok (.iconst 1, 1) := by decide +kernel
theorem dj48_17 : decode jc48 17 = .ok (.if_icmp .ne 20, 3) := by decide +kernel
theorem dj48_20 : decode jc48 20 = .ok (.new 33, 3) := by decide +kernel
theorem dj48_23 : decode jc48 23 = .ok (.dup, 1) := by decide +kernel
theorem dj48_24 : decode jc48 24 = .ok (.iconst 1, 1) := by decide +kernel
theorem dj48_25 : decode jc48 25 = .ok (.newarray .char, 2) := by decide +kernel
theorem dj48_27 : decode jc48 27 = .ok (.dup, 1) := by decide +kernel
theorem dj48_28 : decode jc48 28 = .ok (.iconst 0, 1) := by decide +kernel
theorem dj48_29 : decode jc48 29 = .ok (.aload_n 0, 1) := by decide +kernel
theorem dj48_30 : decode jc48 30 = .ok (.iconst 0, 1) := by decide +kernel
theorem dj48_31 : decode jc48 31 = .ok (.caload, 1) := by decide +kernel
theorem dj48_32 : decode jc48 32 = .ok (.castore, 1) := by decide +kernel
theorem dj48_33 : decode jc48 33 = .ok (.invokespecial 35, 3) := by decide +kernel
theorem dj48_36 : decode jc48 36 = .ok (.areturn, 1) := by decide +kernel
theorem dj48_37 : decode jc48 37 = .ok (.iload_n 1, 1) := by decide +kernel
theorem dj48_38 : decode jc48 38 = .ok (.iconst 2, 1) := by decide +kernel
theorem dj48_39 : decode jc48 39 = .ok (.if_icmp .ne 26, 3) := by decide +kernel
theorem dj48_42 : decode jc48 42 = .ok (.new 33, 3) := by decide +kernel
theorem dj48_45 : decode jc48 45 = .ok (.dup, 1) := by decide +kernel
theorem dj48_46 : decode jc48 46 = .ok (.iconst 2, 1) := by decide +kernel
theorem dj48_47 : decode jc48 47 = .ok (.newarray .char, 2) := by decide +kernel
theorem dj48_49 : decode jc48 49 = .ok (.dup, 1) := by decide +kernel
theorem dj48_50 : decode jc48 50 = .ok (.iconst 0, 1) := by decide +kernel
theorem dj48_51 : decode jc48 51 = .ok (.aload_n 0, 1) := by decide +kernel
theorem dj48_52 : decode jc48 52 = .ok (.iconst 0, 1) := by decide +kernel
theorem dj48_53 : decode jc48 53 = .ok (.caload, 1) := by decide +kernel
theorem dj48_54 : decode jc48 54 = .ok (.castore, 1) := by decide +kernel
theorem dj48_55 : decode jc48 55 = .ok (.dup, 1) := by decide +kernel
theorem dj48_56 : decode jc48 56 = .ok (.iconst 1, 1) := by decide +kernel
theorem dj48_57 : decode jc48 57 = .ok (.aload_n 0, 1) := by decide +kernel
theorem dj48_58 : decode jc48 58 = .ok (.iconst 1, 1) := by decide +kernel
theorem dj48_59 : decode jc48 59 = .ok (.caload, 1) := by decide +kernel
theorem dj48_60 : decode jc48 60 = .ok (.castore, 1) := by decide +kernel
theorem dj48_61 : decode jc48 61 = .ok (.invokespecial 35, 3) := by decide +kernel
theorem dj48_64 : decode jc48 64 = .ok (.areturn, 1) := by decide +kernel
theorem dj48_65 : decode jc48 65 = .ok (.iload_n 1, 1) := by decide +kernel
theorem dj48_66 : decode jc48 66 = .ok (.iconst 3, 1) := by decide +kernel
theorem dj48_67 : decode jc48 67 = .ok (.if_icmp .ne 32, 3) := by decide +kernel
theorem dj48_70 : decode jc48 70 = .ok (.new 33, 3) := by decide +kernel
theorem dj48_73 : decode jc48 73 = .ok (.dup, 1) := by decide +kernel
theorem dj48_74 : decode jc48 74 = .ok (.iconst 3, 1) := by decide +kernel
theorem dj48_75 : decode jc48 75 = .ok (.newarray .char, 2) := by decide +kernel
theorem dj48_77 : decode jc48 77 = .ok (.dup, 1) := by decide +kernel
theorem dj48_78 : decode jc48 78 = .ok (.iconst 0, 1) := by decide +kernel
theorem dj48_79 : decode jc48 79 = .ok (.aload_n 0, 1) := by decide +kernel
theorem dj48_80 : decode jc48 80 = .ok (.iconst 0, 1) := by decide +kernel
theorem dj48_81 : decode jc48 81 = .ok (.caload, 1) := by decide +kernel
theorem dj48_82 : decode jc48 82 = .ok (.castore, 1) := by decide +kernel
theorem dj48_83 : decode jc48 83 = .ok (.dup, 1) := by decide +kernel
theorem dj48_84 : decode jc48 84 = .ok (.iconst 1, 1) := by decide +kernel
theorem dj48_85 : decode jc48 85 = .ok (.aload_n 0, 1) := by decide +kernel
theorem dj48_86 : decode jc48 86 = .ok (.iconst 1, 1) := by decide +kernel
theorem dj48_87 : decode jc48 87 = .ok (.caload, 1) := by decide +kernel
theorem dj48_88 : decode jc48 88 = .ok (.castore, 1) := by decide +kernel
theorem dj48_89 : decode jc48 89 = .ok (.dup, 1) := by decide +kernel
theorem dj48_90 : decode jc48 90 = .ok (.iconst 2, 1) := by decide +kernel
theorem dj48_91 : decode jc48 91 = .ok (.aload_n 0, 1) := by decide +kernel
theorem dj48_92 : decode jc48 92 = .ok (.iconst 2, 1) := by decide +kernel
theorem dj48_93 : decode jc48 93 = .ok (.caload, 1) := by decide +kernel
theorem dj48_94 : decode jc48 94 = .ok (.castore, 1) := by decide +kernel
theorem dj48_95 : decode jc48 95 = .ok (.invokespecial 35, 3) := by decide +kernel
theorem dj48_98 : decode jc48 98 = .ok (.areturn, 1) := by decide +kernel
theorem dj48_99 : decode jc48 99 = .ok (.new 33, 3) := by decide +kernel
theorem dj48_102 : decode jc48 102 = .ok (.dup, 1) := by decide +kernel
theorem dj48_103 : decode jc48 103 = .ok (.iconst 4, 1) := by decide +kernel
theorem dj48_104 : decode jc48 104 = .ok (.newarray .char, 2) := by decide +kernel
theorem dj48_106 : decode jc48 106 = .ok (.dup, 1) := by decide +kernel
theorem dj48_107 : decode jc48 107 = .ok (.iconst 0, 1) := by decide +kernel
theorem dj48_108 : decode jc48 108 = .ok (.aload_n 0, 1) := by decide +kernel
theorem dj48_109 : decode jc48 109 = .ok (.iconst 0, 1) := by decide +kernel
theorem dj48_110 : decode jc48 110 = .ok (.caload, 1) := by decide +kernel
theorem dj48_111 : decode jc48 111 = .ok (.castore, 1) := by decide +kernel
theorem dj48_112 : decode jc48 112 = .ok (.dup, 1) := by decide +kernel
theorem dj48_113 : decode jc48 113 = .ok (.iconst 1, 1) := by decide +kernel
theorem dj48_114 : decode jc48 114 = .ok (.aload_n 0, 1) := by decide +kernel
theorem dj48_115 : decode jc48 115 = .ok (.iconst 1, 1) := by decide +kernel
theorem dj48_116 : decode jc48 116 = .ok (.caload, 1) := by decide +kernel
theorem dj48_117 : decode jc48 117 = .ok (.castore, 1) := by decide +kernel
theorem dj48_118 : decode jc48 118 = .ok (.dup, 1) := by decide +kernel
theorem dj48_119 : decode jc48 119 = .ok (.iconst 2, 1) := by decide +kernel
theorem dj48_120 : decode jc48 120 = .ok (.aload_n 0, 1) := by decide +kernel
theorem dj48_121 : decode jc48 121 = .ok (.iconst 2, 1) := by decide +kernel
theorem dj48_122 : decode jc48 122 = .ok (.caload, 1) := by decide +kernel
theorem dj48_123 : decode jc48 123 = .ok (.castore, 1) := by decide +kernel
theorem dj48_124 : decode jc48 124 = .ok (.dup, 1) := by decide +kernel
theorem dj48_125 : decode jc48 125 = .ok (.iconst 3, 1) := by decide +kernel
theorem dj48_126 : decode jc48 126 = .ok (.aload_n 0, 1) := by decide +kernel
theorem dj48_127 : decode jc48 127 = .ok (.iconst 3, 1) := by decide +kernel
theorem dj48_128 : decode jc48 128 = .ok (.caload, 1) := by decide +kernel
theorem dj48_129 : decode jc48 129 = .ok (.castore, 1) := by decide +kernel
theorem dj48_130 : decode jc48 130 = .ok (.invokespecial 35, 3) := by decide +kernel
theorem dj48_133 : decode jc48 133 = .ok (.areturn, 1) := by decide +kernel
theorem pd_27 : parseMethodDescriptor "([C)V" = some ⟨[(.array .char)], none⟩ := by decide +kernel
theorem ef_mak (mi : MethodId) (v : Addr) (nn : Nat) : entryFrame mi #[(.ref v), (.int (Int32.ofNat nn))] 2 = mkF mi 0 #[.val (.ref v), .val (.int (Int32.ofNat nn))] [] := rfl
def Q_mak (Z : State) (v : Addr) (kv : ClassId) (nn : Nat) (c0 c1 c2 c3 zc : Int32) (hE : Heap) (n0 : Nat) (vv : Option Value) (hh : Heap) (LL : List Loc) : Prop := ∃ y : Addr, ∃ u : Addr, (vv = some (.ref y)) ∧ (Fr n0 LL) ∧ (Keep hE hh []) ∧ (WStr Z hh y u (([c0, c1, c2, c3] : List Int32).take nn))
theorem rm_mak (hw : HW a0 Z) (ws : List Cond) (v : Addr) (kv : ClassId) (nn : Nat) (c0 c1 c2 c3 zc : Int32) (hE : Heap) (n0 : Nat) (O : Old Z n0 hE) (P0_ : Arv Z hE v kv .char (4 : Int32) [(.int c0), (.int c1), (.int c2), (.int c3)] (.int 0)) (D0_ : Sta Z Z.heap c0_ c8_ "Z" (.int zc)) (D1_ : Sta Z Z.heap c1_ c6_ "Z" (.int 1)) (D2_ : Sta Z Z.heap c1_ c9_ "I" (.int 0)) (D3_ : Sta Z Z.heap c1_ c10_ "I" (.int 8)) (hc0 : ¬ c0 < 0 ∧ ¬ (65535 : Int32) < c0) (hc1 : ¬ c1 < 0 ∧ ¬ (65535 : Int32) < c1) (hc2 : ¬ c2 < 0 ∧ ¬ (65535 : Int32) < c2) (hc3 : ¬ c3 < 0 ∧ ¬ (65535 : Int32) < c3) (hn4 : nn ≤ 4) (hzc : ¬ (zc = (0 : Int32))) :
    MW la Z hE mn47 jc48 2 (some (.object c0_)) ws (rr 6 6 20 88) #[(.ref v), (.int (Int32.ofNat nn))] (Q_mak Z v kv nn c0 c1 c2 c3 zc hE n0) := by
  refine MetFree.of_bodySF (plainFor_of_name pn_com_example_detangle_detangle_TestListCaseNamePinLaw) hisR ?_
  intro pg ev sb mi gs below me cd s₁ Bd hml0 hPt hKt
  obtain ⟨rfl, hZ, hh, hH⟩ := hPt
  have hx := Bd.exec
  have hby := Bd.bytes
  have hml : cd.maxLocals = 2 := hml0
  have hown : sb.vm.findClass c2_ = some mi.cls := findClass_of_methodNamed Bd.named
  have X0 : Stand pg la ev (rr 6 6 20 88) (sb.setVm sb.vm) mi #[(.ref v), (.int (Int32.ofNat nn))] below me cd s₁ [] 0 0 := Stand.of_body Bd
  have eE : s₁.heap = hE := by rw [← hh, Bd.state]; rfl
  have N0 := Fr.nil n0
  have pre0 : ∀ tt, SP pg ev below (s₁.setTop (mkF mi 0 #[.val (.ref v), .val (.int (Int32.ofNat nn))] [])) tt → SP pg ev below (s₁.setTop (entryFrame mi #[(.ref v), (.int (Int32.ofNat nn))] 2)) tt := fun tt kk => castTop (ef_mak mi v nn) kk
  have hS : sb.Since sb.vm 0 := (State.WarmedH.refl sb).since 0
  have hk : 0 ≤ hE.size := Nat.zero_le _
  have hEL := own_EW hw
  have C0 := CHr.refl hH
  have pre102 : ∀ tt, SP pg ev below (s₁.setTop (mkF mi 1 #[.val (.ref v), .val (.int (Int32.ofNat nn))] [(.int (Int32.ofNat nn))])) tt → SP pg ev below (s₁.setTop (entryFrame mi #[(.ref v), (.int (Int32.ofNat nn))] 2)) tt := fun tt kk => pre0 _ (by
    show SP pg ev below (s₁.setTop (mkF mi 0 #[.val (.ref v), .val (.int (Int32.ofNat nn))] [])) _
    refine XS.iloadN X0.here hx rfl (hb hby dj48_0) rfl ?_
    exact kk)
  by_cases hc101 : (Int32.ofNat nn) = (0 : Int32)
  · obtain ⟨T103, h103, X103, e103, E103, A103, D103, -, st103⟩ := newO X0 hx hZ hown (wd9 hw) (wd10 hw) (wd11 hw) eE (g := (mkF mi 4 #[.val (.ref v), .val (.int (Int32.ofNat nn))] [])) rfl (hb hby dj48_4) (by decide) (by decide)
    obtain ⟨b103, q103⟩ : ∃ z, z = hE.size := ⟨_, rfl⟩
    rw [← q103] at A103 D103 st103
    have c104 := CHr.ext E103 C0.1
    have C105 := CHr.trans C0 c104
    have f106 : Fld Z h103 b103 c0_ "value" "[B" .null := D103 (Or.inr (wd24 hw)) (ty := (.array .byte)) (by decide)
    have f107 : Fld Z h103 b103 c0_ "coder" "B" (.int 0) := D103 (Or.inr (wd25 hw)) (ty := .byte) (by decide)
    obtain ⟨T108, h108, k108, X108, e108, E108, A108, st108⟩ := newP (aty := .char) X103 hx hZ (wd1 hw) e103 (g := (mkF mi 9 #[.val (.ref v), .val (.int (Int32.ofNat nn))] [(.int 0), (.ref b103), (.ref b103)])) rfl (hb hby dj48_9) rfl (by decide) (cap := 0) (by decide) (by decide) (by decide) (by decide)
    obtain ⟨b108, q108⟩ : ∃ z, z = h103.size := ⟨_, rfl⟩
    rw [← q108] at A108 st108
    have c109 := CHr.ext E108 C105.1
    have C110 := CHr.trans C105 c109
    have f111 : Arv Z h108 b108 k108 .char (0 : Int32) [] (.int 0) := Arv.new A108 (by decide)
    have O112 : Old Z n0 h108 := ((O.ext E103).ext E108)
    have f113 : Exa Z h108 b103 c0_ := (A103.ext E108)
    have f114 : Fld Z h108 b103 c0_ "value" "[B" .null := (f106.ext E108)
    have f115 : Fld Z h108 b103 c0_ "coder" "B" (.int 0) := (f107.ext E108)
    have g_b103 : n0 ≤ b103 := Nat.le_trans (Nat.le_trans (Nat.le_of_eq O.1.symm) O.2.1) (Nat.le_of_eq q103.symm)
    obtain ⟨v116, _, ⟨T116, L116, k116, n116⟩, -, X116, s116, gr116, ⟨Lc116, hQ116, l116, y116, z116, c116⟩, st116⟩ := X108.specialBackS hx (y := mn21) rfl hown (mvT hZ (wd12 hw)) (mvT hZ (wd13 hw)) (mvT hZ (wd14 hw)) (by decide) (backOfSH (W := 1) (rm_sid0 la Z a0 hw [] b103 b108 k108 h108 n0 O112 f113 f114 f115 f111 g_b103) hZ (wd14 hw) (wd11 hw) (by decide) (by decide) hEL C110.1) (g := (mkF mi 11 #[.val (.ref v), .val (.int (Int32.ofNat nn))] [(.ref b108), (.ref b103), (.ref b103)])) rfl (by rw [hml]; rfl) (Steps.refl _) (a := b103) (argsL := [(.ref b108)]) (rest := [(.ref b103)]) (lenOf pd_27 rfl) rfl (Nat.le_of_ble_eq_true rfl) (hb hby dj48_11) (fun _ _ => ⟨rfl, e108, (by decide : 2 + 4 ≤ _), (by decide : 4 + 8 ≤ _)⟩)
    dsimp only [Pt.U, Pt.locs, Pt.cells, Pt.slots] at X116 s116 gr116 l116 y116 z116 c116 st116 hQ116
    subst l116 y116 z116
    obtain ⟨X116, hS, hZ, hown⟩ := rebS hS (show _ ≤ T108.heap.size by rw [e108]; exact (Nat.le_trans hk (Nat.le_trans E103.1 E108.1))) X116 s116 gr116 hZ hown
    have hk : T116.heap.size ≤ T116.heap.size := Nat.le_refl _
    obtain ⟨t_116, rfl, Nq116, Kq116, r116_0⟩ := hQ116
    have N116 := Fr.app N0 Nq116
    have C117 := CHr.trans C110 c116
    have s118 : WStr Z T116.heap b103 t_116 (([c0, c1, c2, c3] : List Int32).take nn) := by rw [show nn = 0 from (own_eq8 (a := nn) (b := 0) (by omega) (by omega)).mp hc101]; exact r116_0
    obtain ⟨fs, hr, hrun, hended, hWe⟩ := X116.leaveW hS (show _ ≤ T116.heap.size from hk) (v := some (.ref b103)) (fun hq => by rw [Bd.returns] at hq; cases hq)
    refine ⟨_, _, pre102 _ ?_, hrun, hended, _, _, rfl, ?_, ?_, hWe.1, hWe.2.1, hWe.2.2.1, hWe.2.2.2.mono (by decide) (by decide)⟩
    · show SP pg ev below (s₁.setTop (mkF mi 1 #[.val (.ref v), .val (.int (Int32.ofNat nn))] [(.int (Int32.ofNat nn))])) _
      refine XS.ifNo X0.here hx rfl (hb hby dj48_1) rfl ((if0 _ _).trans (teq hc101).2) ?_
      refine st103 _ ?_
      refine XS.dup X103.here hx rfl (hb hby dj48_7) rfl rfl ?_
      refine XS.iconst X103.here hx rfl (hb hby dj48_8) ?_
      refine st108 _ ?_
      refine st116.trans ?_
      show SP pg ev below (T116.setTop (mkF mi 14 #[.val (.ref v), .val (.int (Int32.ofNat nn))] [(.ref b103)])) _
      jvm_step X116.here [X116.here.top, hx, (hb hby dj48_14), X116.method', Bd.returns, Value.isRef, FieldType.isReference]
      first | (intro acts; rw [hr _ acts rfl rfl rfl]) | rw [hr _ _ rfl rfl rfl]
      exact Steps.refl _
    · show Q_mak Z v kv nn c0 c1 c2 c3 zc hE n0 _ T116.heap _
      exact ⟨b103, t_116, rfl, N116, ((((Keep.refl hE []).ext E103).ext E108).trans Kq116 (allS (Or.inr (Nat.le_of_eq q103.symm)) all0)), s118⟩
    · show CHr Z ELs sb.vm sb.heap T116.vm T116.heap
      rw [hh]
      exact CHr.trans C117 (CHv.at X116 hZ hEL C117.1)
  · have pre120 : ∀ tt, SP pg ev below (s₁.setTop (mkF mi 17 #[.val (.ref v), .val (.int (Int32.ofNat nn))] [(.int 1), (.int (Int32.ofNat nn))])) tt → SP pg ev below (s₁.setTop (entryFrame mi #[(.ref v), (.int (Int32.ofNat nn))] 2)) tt := fun tt kk => pre102 _ (by
      show SP pg ev below (s₁.setTop (mkF mi 1 #[.val (.ref v), .val (.int (Int32.ofNat nn))] [(.int (Int32.ofNat nn))])) _
      refine XS.ifYes X0.here hx rfl (pc0 := 1) (pc' := 15) rfl (hb hby dj48_1) rfl ((if0 _ _).trans (feq hc101).2) (by decide) (by decide) ?_
      refine XS.iloadN X0.here hx rfl (hb hby dj48_15) rfl ?_
      refine XS.iconst X0.here hx rfl (hb hby dj48_16) ?_
      exact kk)
    by_cases hc119 : (Int32.ofNat nn) = (1 : Int32)
    · obtain ⟨T121, h121, X121, e121, E121, A121, D121, -, st121⟩ := newO X0 hx hZ hown (wd9 hw) (wd10 hw) (wd11 hw) eE (g := (mkF mi 20 #[.val (.ref v), .val (.int (Int32.ofNat nn))] [])) rfl (hb hby dj48_20) (by decide) (by decide)
      obtain ⟨b121, q121⟩ : ∃ z, z = hE.size := ⟨_, rfl⟩
      rw [← q121] at A121 D121 st121
      have c122 := CHr.ext E121 C0.1
      have C123 := CHr.trans C0 c122
      have f124 : Fld Z h121 b121 c0_ "value" "[B" .null := D121 (Or.inr (wd24 hw)) (ty := (.array .byte)) (by decide)
      have f125 : Fld Z h121 b121 c0_ "coder" "B" (.int 0) := D121 (Or.inr (wd25 hw)) (ty := .byte) (by decide)
      obtain ⟨T126, h126, k126, X126, e126, E126, A126, st126⟩ := newP (aty := .char) X121 hx hZ (wd1 hw) e121 (g := (mkF mi 25 #[.val (.ref v), .val (.int (Int32.ofNat nn))] [(.int 1), (.ref b121), (.ref b121)])) rfl (hb hby dj48_25) rfl (by decide) (cap := 1) (by decide) (by decide) (by decide) (by decide)
      obtain ⟨b126, q126⟩ : ∃ z, z = h121.size := ⟨_, rfl⟩
      rw [← q126] at A126 st126
      have c127 := CHr.ext E126 C123.1
      have C128 := CHr.trans C123 c127
      have f129 : Arv Z h126 b126 k126 .char (1 : Int32) [(.int 0)] (.int 0) := (Arv.new A126 (by decide)).pad (pad_rep [] (.int 0) 1)
      have f130 : Arv Z h126 v kv .char (4 : Int32) [(.int c0), (.int c1), (.int c2), (.int c3)] (.int 0) := ((P0_.ext E121).ext E126)
      obtain ⟨cl131, Ar131, -, Sz131, Nn131, Hh131, -⟩ := id f130
      have hin131 : ¬ ((0 : Int32) < 0 ∨ cl131.slots.size ≤ ((0 : Int32)).toNatClampNeg) := inb_of Sz131 ⟨by decide, by decide⟩
      have hat131 : cl131.slots[((0 : Int32)).toNatClampNeg]? = some (.int c0) := Hh131.at hin131 rfl
      have O133 : Old Z n0 h121 := (O.ext E121)
      have g_b126 : n0 ≤ b126 := Nat.le_trans (Nat.le_trans (Nat.le_of_eq O133.1.symm) O133.2.1) (Nat.le_of_eq q126.symm)
      obtain ⟨T132, h132, L132, X132, e132, N132, Kq132, f132, st132⟩ := own_sc X126 hx hZ e126 f129 0 (c := c0) (j := (0 : Int32)) (own_nar_w hc0) rfl (by decide) (Nat.le_of_ble_eq_true rfl) N0 g_b126 (g := (mkF mi 32 #[.val (.ref v), .val (.int (Int32.ofNat nn))] [(.int c0), (.int 0), (.ref b126), (.ref b126), (.ref b121), (.ref b121)])) rfl rfl (hb hby dj48_32)
      have c134 := CHr.keep Kq132 (sfS (Safe.arv hZ.alike f129 (by decide)) sf0) C128.1
      have C135 := CHr.trans C128 c134
      have O136 : Old Z n0 h132 := ((O133.ext E126).keep Kq132 (allS g_b126 all0))
      have f137 : Exa Z h132 b121 c0_ := ((A121.ext E126).keep Kq132)
      have ne_b121_b126 : b121 ≠ b126 := Nat.ne_of_lt (Nat.lt_of_lt_of_le A121.lt (Nat.le_trans (Nat.le_refl _) (Nat.le_of_eq q126.symm)))
      have f138 : Fld Z h132 b121 c0_ "value" "[B" .null := ((f124.ext E126).keep Kq132 (ninS ne_b121_b126 nin0))
      have f139 : Fld Z h132 b121 c0_ "coder" "B" (.int 0) := ((f125.ext E126).keep Kq132 (ninS ne_b121_b126 nin0))
      have g_b121 : n0 ≤ b121 := Nat.le_trans (Nat.le_trans (Nat.le_of_eq O.1.symm) O.2.1) (Nat.le_of_eq q121.symm)
      obtain ⟨v140, _, ⟨T140, L140, k140, n140⟩, -, X140, ⟨Lc140, hQ140, l140, y140, z140⟩, st140⟩ := X132.specialBack hx (y := mn21) rfl hown (mvT hZ (wd12 hw)) (mvT hZ (wd13 hw)) (mvT hZ (wd14 hw)) (by decide) (backOf (W := 1) (rm_sid la Z a0 hw [] b121 b126 k126 ([c0] : List Int32) zc h132 n0 O136 f137 f138 f139 f132 D0_ D1_ D2_ D3_ g_b121 (Ne.symm ne_b121_b126) (by first | assumption | exact Nat.le_of_ble_eq_true rfl | rfl | decide | omega : 0 < ([c0] : List Int32).length) (by first | assumption | exact Nat.le_of_ble_eq_true rfl | rfl | decide | omega : ([c0] : List Int32).length ≤ 4) ((List.forall_mem_cons.mpr ⟨hc0, (fun _ h => nomatch h)⟩) : ∀ c ∈ ([c0] : List Int32), ¬ c < 0 ∧ ¬ (65535 : Int32) < c) (hzc : ¬ (zc = (0 : Int32)))) hZ (wd14 hw) (wd11 hw) (by decide) (by decide)) (g := (mkF mi 33 #[.val (.ref v), .val (.int (Int32.ofNat nn))] [(.ref b126), (.ref b121), (.ref b121)])) rfl (by rw [hml]; rfl) (Steps.refl _) (a := b121) (argsL := [(.ref b126)]) (rest := [(.ref b121)]) (lenOf pd_27 rfl) rfl (Nat.le_of_ble_eq_true rfl) (hb hby dj48_33) (fun _ _ => ⟨rfl, e132, (by decide : 2 + 2 ≤ _), (by decide : 5 + 12 ≤ _)⟩)
      dsimp only [Pt.U, Pt.locs, Pt.cells, Pt.slots] at X140 l140 y140 z140 st140 hQ140
      subst l140 y140 z140
      obtain ⟨t_140, rfl, Nq140, Kq140, fr_t_140, r140_0⟩ := hQ140
      have N140 := Fr.app N132 Nq140
      have sf142 : Safe Z ELs _ h132 b121 := (c134.safe (Nat.lt_of_lt_of_le A121.lt E126.1) (c127.safe A121.lt (Safe.ext E121 C0.1 (Safe.new (Nat.le_of_eq q121.symm)))))
      have c141 := CHr.keep Kq140 (sfS sf142 sf0) C135.1
      have C143 := CHr.trans C135 c141
      have sf144 : Safe Z ELs _ T140.heap t_140 := (Safe.keep Kq140 (sfS sf142 sf0) C135.1 (Safe.new fr_t_140))
      have s145 : WStr Z T140.heap b121 t_140 (([c0, c1, c2, c3] : List Int32).take nn) := by rw [show nn = 1 from (own_eq8 (a := nn) (b := 1) (by omega) (by omega)).mp hc119]; exact r140_0
      obtain ⟨fs, hr, hrun, hended, hWe⟩ := X140.leaveW hS (show _ ≤ T140.heap.size from (Nat.le_trans hk (Nat.le_trans (Nat.le_trans (Nat.le_trans E121.1 E126.1) Kq132.1) Kq140.1))) (v := some (.ref b121)) (fun hq => by rw [Bd.returns] at hq; cases hq)
      refine ⟨_, _, pre120 _ ?_, hrun, hended, _, _, rfl, ?_, ?_, hWe.1, hWe.2.1, hWe.2.2.1, hWe.2.2.2.mono (by decide) (by decide)⟩
      · show SP pg ev below (s₁.setTop (mkF mi 17 #[.val (.ref v), .val (.int (Int32.ofNat nn))] [(.int 1), (.int (Int32.ofNat nn))])) _
        refine XS.icmpNo X0.here hx rfl (hb hby dj48_17) rfl (teq hc119).2 ?_
        refine st121 _ ?_
        refine XS.dup X121.here hx rfl (hb hby dj48_23) rfl rfl ?_
        refine XS.iconst X121.here hx rfl (hb hby dj48_24) ?_
        refine st126 _ ?_
        refine XS.dup X126.here hx rfl (hb hby dj48_27) rfl rfl ?_
        refine XS.iconst X126.here hx rfl (hb hby dj48_28) ?_
        refine XS.aloadN X126.here hx rfl (hb hby dj48_29) rfl rfl ?_
        refine XS.iconst X126.here hx rfl (hb hby dj48_30) ?_
        refine X126.caload hx (j := (0 : Int32)) (v := (.int c0)) (by rw [e126]; exact Ar131.1) (State.isArrayOf_alike hZ.alike Ar131.2.1) Ar131.2.2 hin131 hat131 (g := (mkF mi 31 #[.val (.ref v), .val (.int (Int32.ofNat nn))] [(.int 0), (.ref v), (.int 0), (.ref b126), (.ref b126), (.ref b121), (.ref b121)])) rfl rfl (hb hby dj48_31) _ ?_
        refine st132 _ ?_
        refine st140.trans ?_
        show SP pg ev below (T140.setTop (mkF mi 36 #[.val (.ref v), .val (.int (Int32.ofNat nn))] [(.ref b121)])) _
        jvm_step X140.here [X140.here.top, hx, (hb hby dj48_36), X140.method', Bd.returns, Value.isRef, FieldType.isReference]
        first | (intro acts; rw [hr _ acts rfl rfl rfl]) | rw [hr _ _ rfl rfl rfl]
        exact Steps.refl _
      · show Q_mak Z v kv nn c0 c1 c2 c3 zc hE n0 _ T140.heap _
        exact ⟨b121, t_140, rfl, N140, (((((Keep.refl hE []).ext E121).ext E126).trans Kq132 (allS (Or.inr (Nat.le_trans E121.1 (Nat.le_of_eq q126.symm))) all0)).trans Kq140 (allS (Or.inr (Nat.le_of_eq q121.symm)) all0)), s145⟩
      · show CHr Z ELs sb.vm sb.heap T140.vm T140.heap
        rw [hh]
        exact CHr.trans C143 (CHv.at X140 hZ hEL C143.1)
    · have pre147 : ∀ tt, SP pg ev below (s₁.setTop (mkF mi 39 #[.val (.ref v), .val (.int (Int32.ofNat nn))] [(.int 2), (.int (Int32.ofNat nn))])) tt → SP pg ev below (s₁.setTop (entryFrame mi #[(.ref v), (.int (Int32.ofNat nn))] 2)) tt := fun tt kk => pre120 _ (by
        show SP pg ev below (s₁.setTop (mkF mi 17 #[.val (.ref v), .val (.int (Int32.ofNat nn))] [(.int 1), (.int (Int32.ofNat nn))])) _
        refine XS.icmpYes X0.here hx rfl (pc0 := 17) (pc' := 37) rfl (hb hby dj48_17) rfl (feq hc119).2 (by decide) (by decide) ?_
        refine XS.iloadN X0.here hx rfl (hb hby dj48_37) rfl ?_
        refine XS.iconst X0.here hx rfl (hb hby dj48_38) ?_
        exact kk)
      by_cases hc146 : (Int32.ofNat nn) = (2 : Int32)
      · obtain ⟨T148, h148, X148, e148, E148, A148, D148, -, st148⟩ := newO X0 hx hZ hown (wd9 hw) (wd10 hw) (wd11 hw) eE (g := (mkF mi 42 #[.val (.ref v), .val (.int (Int32.ofNat nn))] [])) rfl (hb hby dj48_42) (by decide) (by decide)
        obtain ⟨b148, q148⟩ : ∃ z, z = hE.size := ⟨_, rfl⟩
        rw [← q148] at A148 D148 st148
        have c149 := CHr.ext E148 C0.1
        have C150 := CHr.trans C0 c149
        have f151 : Fld Z h148 b148 c0_ "value" "[B" .null := D148 (Or.inr (wd24 hw)) (ty := (.array .byte)) (by decide)
        have f152 : Fld Z h148 b148 c0_ "coder" "B" (.int 0) := D148 (Or.inr (wd25 hw)) (ty := .byte) (by decide)
        obtain ⟨T153, h153, k153, X153, e153, E153, A153, st153⟩ := newP (aty := .char) X148 hx hZ (wd1 hw) e148 (g := (mkF mi 47 #[.val (.ref v), .val (.int (Int32.ofNat nn))] [(.int 2), (.ref b148), (.ref b148)])) rfl (hb hby dj48_47) rfl (by decide) (cap := 2) (by decide) (by decide) (by decide) (by decide)
        obtain ⟨b153, q153⟩ : ∃ z, z = h148.size := ⟨_, rfl⟩
        rw [← q153] at A153 st153
        have c154 := CHr.ext E153 C150.1
        have C155 := CHr.trans C150 c154
        have f156 : Arv Z h153 b153 k153 .char (2 : Int32) [(.int 0), (.int 0)] (.int 0) := (Arv.new A153 (by decide)).pad (pad_rep [] (.int 0) 2)
        have f157 : Arv Z h153 v kv .char (4 : Int32) [(.int c0), (.int c1), (.int c2), (.int c3)] (.int 0) := ((P0_.ext E148).ext E153)
        obtain ⟨cl158, Ar158, -, Sz158, Nn158, Hh158, -⟩ := id f157
        have hin158 : ¬ ((0 : Int32) < 0 ∨ cl158.slots.size ≤ ((0 : Int32)).toNatClampNeg) := inb_of Sz158 ⟨by decide, by decide⟩
        have hat158 : cl158.slots[((0 : Int32)).toNatClampNeg]? = some (.int c0) := Hh158.at hin158 rfl
        have O160 : Old Z n0 h148 := (O.ext E148)
        have g_b153 : n0 ≤ b153 := Nat.le_trans (Nat.le_trans (Nat.le_of_eq O160.1.symm) O160.2.1) (Nat.le_of_eq q153.symm)
        obtain ⟨T159, h159, L159, X159, e159, N159, Kq159, f159, st159⟩ := own_sc X153 hx hZ e153 f156 0 (c := c0) (j := (0 : Int32)) (own_nar_w hc0) rfl (by decide) (Nat.le_of_ble_eq_true rfl) N0 g_b153 (g := (mkF mi 54 #[.val (.ref v), .val (.int (Int32.ofNat nn))] [(.int c0), (.int 0), (.ref b153), (.ref b153), (.ref b148), (.ref b148)])) rfl rfl (hb hby dj48_54)
        have c161 := CHr.keep Kq159 (sfS (Safe.arv hZ.alike f156 (by decide)) sf0) C155.1
        have C162 := CHr.trans C155 c161
        have ne_v_b153 : v ≠ b153 := Nat.ne_of_lt (Nat.lt_of_lt_of_le P0_.lt (Nat.le_trans E148.1 (Nat.le_of_eq q153.symm)))
        have f163 : Arv Z h159 v kv .char (4 : Int32) [(.int c0), (.int c1), (.int c2), (.int c3)] (.int 0) := (f157.keep Kq159 (ninS ne_v_b153 nin0))
        obtain ⟨cl164, Ar164, -, Sz164, Nn164, Hh164, -⟩ := id f163
        have hin164 : ¬ ((1 : Int32) < 0 ∨ cl164.slots.size ≤ ((1 : Int32)).toNatClampNeg) := inb_of Sz164 ⟨by decide, by decide⟩
        have hat164 : cl164.slots[((1 : Int32)).toNatClampNeg]? = some (.int c1) := Hh164.at hin164 rfl
        obtain ⟨T165, h165, L165, X165, e165, N165, Kq165, f165, st165⟩ := own_sc X159 hx hZ e159 f159 1 (c := c1) (j := (1 : Int32)) (own_nar_w hc1) rfl (by decide) (Nat.le_of_ble_eq_true rfl) N159 g_b153 (g := (mkF mi 60 #[.val (.ref v), .val (.int (Int32.ofNat nn))] [(.int c1), (.int 1), (.ref b153), (.ref b153), (.ref b148), (.ref b148)])) rfl rfl (hb hby dj48_60)
        have c166 := CHr.keep Kq165 (sfS (Safe.arv hZ.alike f159 (by decide)) sf0) C162.1
        have C167 := CHr.trans C162 c166
        have O168 : Old Z n0 h165 := (((O160.ext E153).keep Kq159 (allS g_b153 all0)).keep Kq165 (allS g_b153 all0))
        have f169 : Exa Z h165 b148 c0_ := (((A148.ext E153).keep Kq159).keep Kq165)
        have ne_b148_b153 : b148 ≠ b153 := Nat.ne_of_lt (Nat.lt_of_lt_of_le A148.lt (Nat.le_trans (Nat.le_refl _) (Nat.le_of_eq q153.symm)))
        have f170 : Fld Z h165 b148 c0_ "value" "[B" .null := (((f151.ext E153).keep Kq159 (ninS ne_b148_b153 nin0)).keep Kq165 (ninS ne_b148_b153 nin0))
        have f171 : Fld Z h165 b148 c0_ "coder" "B" (.int 0) := (((f152.ext E153).keep Kq159 (ninS ne_b148_b153 nin0)).keep Kq165 (ninS ne_b148_b153 nin0))
        have g_b148 : n0 ≤ b148 := Nat.le_trans (Nat.le_trans (Nat.le_of_eq O.1.symm) O.2.1) (Nat.le_of_eq q148.symm)
        obtain ⟨v172, _, ⟨T172, L172, k172, n172⟩, -, X172, ⟨Lc172, hQ172, l172, y172, z172⟩, st172⟩ := X165.specialBack hx (y := mn21) rfl hown (mvT hZ (wd12 hw)) (mvT hZ (wd13 hw)) (mvT hZ (wd14 hw)) (by decide) (backOf (W := 1) (rm_sid la Z a0 hw [] b148 b153 k153 ([c0, c1] : List Int32) zc h165 n0 O168 f169 f170 f171 f165 D0_ D1_ D2_ D3_ g_b148 (Ne.symm ne_b148_b153) (by first | assumption | exact Nat.le_of_ble_eq_true rfl | rfl | decide | omega : 0 < ([c0, c1] : List Int32).length) (by first | assumption | exact Nat.le_of_ble_eq_true rfl | rfl | decide | omega : ([c0, c1] : List Int32).length ≤ 4) ((List.forall_mem_cons.mpr ⟨hc0, (List.forall_mem_cons.mpr ⟨hc1, (fun _ h => nomatch h)⟩)⟩) : ∀ c ∈ ([c0, c1] : List Int32), ¬ c < 0 ∧ ¬ (65535 : Int32) < c) (hzc : ¬ (zc = (0 : Int32)))) hZ (wd14 hw) (wd11 hw) (by decide) (by decide)) (g := (mkF mi 61 #[.val (.ref v), .val (.int (Int32.ofNat nn))] [(.ref b153), (.ref b148), (.ref b148)])) rfl (by rw [hml]; rfl) (Steps.refl _) (a := b148) (argsL := [(.ref b153)]) (rest := [(.ref b148)]) (lenOf pd_27 rfl) rfl (Nat.le_of_ble_eq_true rfl) (hb hby dj48_61) (fun _ _ => ⟨rfl, e165, (by decide : 2 + 2 ≤ _), (by decide : 6 + 12 ≤ _)⟩)
        dsimp only [Pt.U, Pt.locs, Pt.cells, Pt.slots] at X172 l172 y172 z172 st172 hQ172
        subst l172 y172 z172
        obtain ⟨t_172, rfl, Nq172, Kq172, fr_t_172, r172_0⟩ := hQ172
        have N172 := Fr.app N165 Nq172
        have sf174 : Safe Z ELs _ h165 b148 := (c166.safe (Nat.lt_of_lt_of_le A148.lt (Nat.le_trans E153.1 Kq159.1)) (c161.safe (Nat.lt_of_lt_of_le A148.lt E153.1) (c154.safe A148.lt (Safe.ext E148 C0.1 (Safe.new (Nat.le_of_eq q148.symm))))))
        have c173 := CHr.keep Kq172 (sfS sf174 sf0) C167.1
        have C175 := CHr.trans C167 c173
        have sf176 : Safe Z ELs _ T172.heap t_172 := (Safe.keep Kq172 (sfS sf174 sf0) C167.1 (Safe.new fr_t_172))
        have s177 : WStr Z T172.heap b148 t_172 (([c0, c1, c2, c3] : List Int32).take nn) := by rw [show nn = 2 from (own_eq8 (a := nn) (b := 2) (by omega) (by omega)).mp hc146]; exact r172_0
        obtain ⟨fs, hr, hrun, hended, hWe⟩ := X172.leaveW hS (show _ ≤ T172.heap.size from (Nat.le_trans hk (Nat.le_trans (Nat.le_trans (Nat.le_trans (Nat.le_trans E148.1 E153.1) Kq159.1) Kq165.1) Kq172.1))) (v := some (.ref b148)) (fun hq => by rw [Bd.returns] at hq; cases hq)
        refine ⟨_, _, pre147 _ ?_, hrun, hended, _, _, rfl, ?_, ?_, hWe.1, hWe.2.1, hWe.2.2.1, hWe.2.2.2.mono (by decide) (by decide)⟩
        · show SP pg ev below (s₁.setTop (mkF mi 39 #[.val (.ref v), .val (.int (Int32.ofNat nn))] [(.int 2), (.int (Int32.ofNat nn))])) _
          refine XS.icmpNo X0.here hx rfl (hb hby dj48_39) rfl (teq hc146).2 ?_
          refine st148 _ ?_
          refine XS.dup X148.here hx rfl (hb hby dj48_45) rfl rfl ?_
          refine XS.iconst X148.here hx rfl (hb hby dj48_46) ?_
          refine st153 _ ?_
          refine XS.dup X153.here hx rfl (hb hby dj48_49) rfl rfl ?_
          refine XS.iconst X153.here hx rfl (hb hby dj48_50) ?_
          refine XS.aloadN X153.here hx rfl (hb hby dj48_51) rfl rfl ?_
          refine XS.iconst X153.here hx rfl (hb hby dj48_52) ?_
          refine X153.caload hx (j := (0 : Int32)) (v := (.int c0)) (by rw [e153]; exact Ar158.1) (State.isArrayOf_alike hZ.alike Ar158.2.1) Ar158.2.2 hin158 hat158 (g := (mkF mi 53 #[.val (.ref v), .val (.int (Int32.ofNat nn))] [(.int 0), (.ref v), (.int 0), (.ref b153), (.ref b153), (.ref b148), (.ref b148)])) rfl rfl (hb hby dj48_53) _ ?_
          refine st159 _ ?_
          refine XS.dup X159.here hx rfl (hb hby dj48_55) rfl rfl ?_
          refine XS.iconst X159.here hx rfl (hb hby dj48_56) ?_
          refine XS.aloadN X159.here hx rfl (hb hby dj48_57) rfl rfl ?_
          refine XS.iconst X159.here hx rfl (hb hby dj48_58) ?_
          refine X159.caload hx (j := (1 : Int32)) (v := (.int c1)) (by rw [e159]; exact Ar164.1) (State.isArrayOf_alike hZ.alike Ar164.2.1) Ar164.2.2 hin164 hat164 (g := (mkF mi 59 #[.val (.ref v), .val (.int (Int32.ofNat nn))] [(.int 1), (.ref v), (.int 1), (.ref b153), (.ref b153), (.ref b148), (.ref b148)])) rfl rfl (hb hby dj48_59) _ ?_
          refine st165 _ ?_
          refine st172.trans ?_
          show SP pg ev below (T172.setTop (mkF mi 64 #[.val (.ref v), .val (.int (Int32.ofNat nn))] [(.ref b148)])) _
          jvm_step X172.here [X172.here.top, hx, (hb hby dj48_64), X172.method', Bd.returns, Value.isRef, FieldType.isReference]
          first | (intro acts; rw [hr _ acts rfl rfl rfl]) | rw [hr _ _ rfl rfl rfl]
          exact Steps.refl _
        · show Q_mak Z v kv nn c0 c1 c2 c3 zc hE n0 _ T172.heap _
          exact ⟨b148, t_172, rfl, N172, ((((((Keep.refl hE []).ext E148).ext E153).trans Kq159 (allS (Or.inr (Nat.le_trans E148.1 (Nat.le_of_eq q153.symm))) all0)).trans Kq165 (allS (Or.inr (Nat.le_trans E148.1 (Nat.le_of_eq q153.symm))) all0)).trans Kq172 (allS (Or.inr (Nat.le_of_eq q148.symm)) all0)), s177⟩
        · show CHr Z ELs sb.vm sb.heap T172.vm T172.heap
          rw [hh]
          exact CHr.trans C175 (CHv.at X172 hZ hEL C175.1)
      · have pre179 : ∀ tt, SP pg ev below (s₁.setTop (mkF mi 67 #[.val (.ref v), .val (.int (Int32.ofNat nn))] [(.int 3), (.int (Int32.ofNat nn))])) tt → SP pg ev below (s₁.setTop (entryFrame mi #[(.ref v), (.int (Int32.ofNat nn))] 2)) tt := fun tt kk => pre147 _ (by
          show SP pg ev below (s₁.setTop (mkF mi 39 #[.val (.ref v), .val (.int (Int32.ofNat nn))] [(.int 2), (.int (Int32.ofNat nn))])) _
          refine XS.icmpYes X0.here hx rfl (pc0 := 39) (pc' := 65) rfl (hb hby dj48_39) rfl (feq hc146).2 (by decide) (by decide) ?_
          refine XS.iloadN X0.here hx rfl (hb hby dj48_65) rfl ?_
          refine XS.iconst X0.here hx rfl (hb hby dj48_66) ?_
          exact kk)
        by_cases hc178 : (Int32.ofNat nn) = (3 : Int32)
        · obtain ⟨T180, h180, X180, e180, E180, A180, D180, -, st180⟩ := newO X0 hx hZ hown (wd9 hw) (wd10 hw) (wd11 hw) eE (g := (mkF mi 70 #[.val (.ref v), .val (.int (Int32.ofNat nn))] [])) rfl (hb hby dj48_70) (by decide) (by decide)
          obtain ⟨b180, q180⟩ : ∃ z, z = hE.size := ⟨_, rfl⟩
          rw [← q180] at A180 D180 st180
          have c181 := CHr.ext E180 C0.1
          have C182 := CHr.trans C0 c181
          have f183 : Fld Z h180 b180 c0_ "value" "[B" .null := D180 (Or.inr (wd24 hw)) (ty := (.array .byte)) (by decide)
          have f184 : Fld Z h180 b180 c0_ "coder" "B" (.int 0) := D180 (Or.inr (wd25 hw)) (ty := .byte) (by decide)
          obtain ⟨T185, h185, k185, X185, e185, E185, A185, st185⟩ := newP (aty := .char) X180 hx hZ (wd1 hw) e180 (g := (mkF mi 75 #[.val (.ref v), .val (.int (Int32.ofNat nn))] [(.int 3), (.ref b180), (.ref b180)])) rfl (hb hby dj48_75) rfl (by decide) (cap := 3) (by decide) (by decide) (by decide) (by decide)
          obtain ⟨b185, q185⟩ : ∃ z, z = h180.size := ⟨_, rfl⟩
          rw [← q185] at A185 st185
          have c186 := CHr.ext E185 C182.1
          have C187 := CHr.trans C182 c186
          have f188 : Arv Z h185 b185 k185 .char (3 : Int32) [(.int 0), (.int 0), (.int 0)] (.int 0) := (Arv.new A185 (by decide)).pad (pad_rep [] (.int 0) 3)
          have f189 : Arv Z h185 v kv .char (4 : Int32) [(.int c0), (.int c1), (.int c2), (.int c3)] (.int 0) := ((P0_.ext E180).ext E185)
          obtain ⟨cl190, Ar190, -, Sz190, Nn190, Hh190, -⟩ := id f189
          have hin190 : ¬ ((0 : Int32) < 0 ∨ cl190.slots.size ≤ ((0 : Int32)).toNatClampNeg) := inb_of Sz190 ⟨by decide, by decide⟩
          have hat190 : cl190.slots[((0 : Int32)).toNatClampNeg]? = some (.int c0) := Hh190.at hin190 rfl
          have O192 : Old Z n0 h180 := (O.ext E180)
          have g_b185 : n0 ≤ b185 := Nat.le_trans (Nat.le_trans (Nat.le_of_eq O192.1.symm) O192.2.1) (Nat.le_of_eq q185.symm)
          obtain ⟨T191, h191, L191, X191, e191, N191, Kq191, f191, st191⟩ := own_sc X185 hx hZ e185 f188 0 (c := c0) (j := (0 : Int32)) (own_nar_w hc0) rfl (by decide) (Nat.le_of_ble_eq_true rfl) N0 g_b185 (g := (mkF mi 82 #[.val (.ref v), .val (.int (Int32.ofNat nn))] [(.int c0), (.int 0), (.ref b185), (.ref b185), (.ref b180), (.ref b180)])) rfl rfl (hb hby dj48_82)
          have c193 := CHr.keep Kq191 (sfS (Safe.arv hZ.alike f188 (by decide)) sf0) C187.1
          have C194 := CHr.trans C187 c193
          have ne_v_b185 : v ≠ b185 := Nat.ne_of_lt (Nat.lt_of_lt_of_le P0_.lt (Nat.le_trans E180.1 (Nat.le_of_eq q185.symm)))
          have f195 : Arv Z h191 v kv .char (4 : Int32) [(.int c0), (.int c1), (.int c2), (.int c3)] (.int 0) := (f189.keep Kq191 (ninS ne_v_b185 nin0))
          obtain ⟨cl196, Ar196, -, Sz196, Nn196, Hh196, -⟩ := id f195
          have hin196 : ¬ ((1 : Int32) < 0 ∨ cl196.slots.size ≤ ((1 : Int32)).toNatClampNeg) := inb_of Sz196 ⟨by decide, by decide⟩
          have hat196 : cl196.slots[((1 : Int32)).toNatClampNeg]? = some (.int c1) := Hh196.at hin196 rfl
          obtain ⟨T197, h197, L197, X197, e197, N197, Kq197, f197, st197⟩ := own_sc X191 hx hZ e191 f191 1 (c := c1) (j := (1 : Int32)) (own_nar_w hc1) rfl (by decide) (Nat.le_of_ble_eq_true rfl) N191 g_b185 (g := (mkF mi 88 #[.val (.ref v), .val (.int (Int32.ofNat nn))] [(.int c1), (.int 1), (.ref b185), (.ref b185), (.ref b180), (.ref b180)])) rfl rfl (hb hby dj48_88)
          have c198 := CHr.keep Kq197 (sfS (Safe.arv hZ.alike f191 (by decide)) sf0) C194.1
          have C199 := CHr.trans C194 c198
          have f200 : Arv Z h197 v kv .char (4 : Int32) [(.int c0), (.int c1), (.int c2), (.int c3)] (.int 0) := (f195.keep Kq197 (ninS ne_v_b185 nin0))
          obtain ⟨cl201, Ar201, -, Sz201, Nn201, Hh201, -⟩ := id f200
          have hin201 : ¬ ((2 : Int32) < 0 ∨ cl201.slots.size ≤ ((2 : Int32)).toNatClampNeg) := inb_of Sz201 ⟨by decide, by decide⟩
          have hat201 : cl201.slots[((2 : Int32)).toNatClampNeg]? = some (.int c2) := Hh201.at hin201 rfl
          obtain ⟨T202, h202, L202, X202, e202, N202, Kq202, f202, st202⟩ := own_sc X197 hx hZ e197 f197 2 (c := c2) (j := (2 : Int32)) (own_nar_w hc2) rfl (by decide) (Nat.le_of_ble_eq_true rfl) N197 g_b185 (g := (mkF mi 94 #[.val (.ref v), .val (.int (Int32.ofNat nn))] [(.int c2), (.int 2), (.ref b185), (.ref b185), (.ref b180), (.ref b180)])) rfl rfl (hb hby dj48_94)
          have c203 := CHr.keep Kq202 (sfS (Safe.arv hZ.alike f197 (by decide)) sf0) C199.1
          have C204 := CHr.trans C199 c203
          have O205 : Old Z n0 h202 := ((((O192.ext E185).keep Kq191 (allS g_b185 all0)).keep Kq197 (allS g_b185 all0)).keep Kq202 (allS g_b185 all0))
          have f206 : Exa Z h202 b180 c0_ := ((((A180.ext E185).keep Kq191).keep Kq197).keep Kq202)
          have ne_b180_b185 : b180 ≠ b185 := Nat.ne_of_lt (Nat.lt_of_lt_of_le A180.lt (Nat.le_trans (Nat.le_refl _) (Nat.le_of_eq q185.symm)))
          have f207 : Fld Z h202 b180 c0_ "value" "[B" .null := ((((f183.ext E185).keep Kq191 (ninS ne_b180_b185 nin0)).keep Kq197 (ninS ne_b180_b185 nin0)).keep Kq202 (ninS ne_b180_b185 nin0))
          have f208 : Fld Z h202 b180 c0_ "coder" "B" (.int 0) := ((((f184.ext E185).keep Kq191 (ninS ne_b180_b185 nin0)).keep Kq197 (ninS ne_b180_b185 nin0)).keep Kq202 (ninS ne_b180_b185 nin0))
          have g_b180 : n0 ≤ b180 := Nat.le_trans (Nat.le_trans (Nat.le_of_eq O.1.symm) O.2.1) (Nat.le_of_eq q180.symm)
          obtain ⟨v209, _, ⟨T209, L209, k209, n209⟩, -, X209, ⟨Lc209, hQ209, l209, y209, z209⟩, st209⟩ := X202.specialBack hx (y := mn21) rfl hown (mvT hZ (wd12 hw)) (mvT hZ (wd13 hw)) (mvT hZ (wd14 hw)) (by decide) (backOf (W := 1) (rm_sid la Z a0 hw [] b180 b185 k185 ([c0, c1, c2] : List Int32) zc h202 n0 O205 f206 f207 f208 f202 D0_ D1_ D2_ D3_ g_b180 (Ne.symm ne_b180_b185) (by first | assumption | exact Nat.le_of_ble_eq_true rfl | rfl | decide | omega : 0 < ([c0, c1, c2] : List Int32).length) (by first | assumption | exact Nat.le_of_ble_eq_true rfl | rfl | decide | omega : ([c0, c1, c2] : List Int32).length ≤ 4) ((List.forall_mem_cons.mpr ⟨hc0, (List.forall_mem_cons.mpr ⟨hc1, (List.forall_mem_cons.mpr ⟨hc2, (fun _ h => nomatch h)⟩)⟩)⟩) : ∀ c ∈ ([c0, c1, c2] : List Int32), ¬ c < 0 ∧ ¬ (65535 : Int32) < c) (hzc : ¬ (zc = (0 : Int32)))) hZ (wd14 hw) (wd11 hw) (by decide) (by decide)) (g := (mkF mi 95 #[.val (.ref v), .val (.int (Int32.ofNat nn))] [(.ref b185), (.ref b180), (.ref b180)])) rfl (by rw [hml]; rfl) (Steps.refl _) (a := b180) (argsL := [(.ref b185)]) (rest := [(.ref b180)]) (lenOf pd_27 rfl) rfl (Nat.le_of_ble_eq_true rfl) (hb hby dj48_95) (fun _ _ => ⟨rfl, e202, (by decide : 2 + 2 ≤ _), (by decide : 7 + 12 ≤ _)⟩)
          dsimp only [Pt.U, Pt.locs, Pt.cells, Pt.slots] at X209 l209 y209 z209 st209 hQ209
          subst l209 y209 z209
          obtain ⟨t_209, rfl, Nq209, Kq209, fr_t_209, r209_0⟩ := hQ209
          have N209 := Fr.app N202 Nq209
          have sf211 : Safe Z ELs _ h202 b180 := (c203.safe (Nat.lt_of_lt_of_le A180.lt (Nat.le_trans (Nat.le_trans E185.1 Kq191.1) Kq197.1)) (c198.safe (Nat.lt_of_lt_of_le A180.lt (Nat.le_trans E185.1 Kq191.1)) (c193.safe (Nat.lt_of_lt_of_le A180.lt E185.1) (c186.safe A180.lt (Safe.ext E180 C0.1 (Safe.new (Nat.le_of_eq q180.symm)))))))
          have c210 := CHr.keep Kq209 (sfS sf211 sf0) C204.1
          have C212 := CHr.trans C204 c210
          have sf213 : Safe Z ELs _ T209.heap t_209 := (Safe.keep Kq209 (sfS sf211 sf0) C204.1 (Safe.new fr_t_209))
          have s214 : WStr Z T209.heap b180 t_209 (([c0, c1, c2, c3] : List Int32).take nn) := by rw [show nn = 3 from (own_eq8 (a := nn) (b := 3) (by omega) (by omega)).mp hc178]; exact r209_0
          obtain ⟨fs, hr, hrun, hended, hWe⟩ := X209.leaveW hS (show _ ≤ T209.heap.size from (Nat.le_trans hk (Nat.le_trans (Nat.le_trans (Nat.le_trans (Nat.le_trans (Nat.le_trans E180.1 E185.1) Kq191.1) Kq197.1) Kq202.1) Kq209.1))) (v := some (.ref b180)) (fun hq => by rw [Bd.returns] at hq; cases hq)
          refine ⟨_, _, pre179 _ ?_, hrun, hended, _, _, rfl, ?_, ?_, hWe.1, hWe.2.1, hWe.2.2.1, hWe.2.2.2.mono (by decide) (by decide)⟩
          · show SP pg ev below (s₁.setTop (mkF mi 67 #[.val (.ref v), .val (.int (Int32.ofNat nn))] [(.int 3), (.int (Int32.ofNat nn))])) _
            refine XS.icmpNo X0.here hx rfl (hb hby dj48_67) rfl (teq hc178).2 ?_
            refine st180 _ ?_
            refine XS.dup X180.here hx rfl (hb hby dj48_73) rfl rfl ?_
            refine XS.iconst X180.here hx rfl (hb hby dj48_74) ?_
            refine st185 _ ?_
            refine XS.dup X185.here hx rfl (hb hby dj48_77) rfl rfl ?_
            refine XS.iconst X185.here hx rfl (hb hby dj48_78) ?_
            refine XS.aloadN X185.here hx rfl (hb hby dj48_79) rfl rfl ?_
            refine XS.iconst X185.here hx rfl (hb hby dj48_80) ?_
            refine X185.caload hx (j := (0 : Int32)) (v := (.int c0)) (by rw [e185]; exact Ar190.1) (State.isArrayOf_alike hZ.alike Ar190.2.1) Ar190.2.2 hin190 hat190 (g := (mkF mi 81 #[.val (.ref v), .val (.int (Int32.ofNat nn))] [(.int 0), (.ref v), (.int 0), (.ref b185), (.ref b185), (.ref b180), (.ref b180)])) rfl rfl (hb hby dj48_81) _ ?_
            refine st191 _ ?_
            refine XS.dup X191.here hx rfl (hb hby dj48_83) rfl rfl ?_
            refine XS.iconst X191.here hx rfl (hb hby dj48_84) ?_
            refine XS.aloadN X191.here hx rfl (hb hby dj48_85) rfl rfl ?_
            refine XS.iconst X191.here hx rfl (hb hby dj48_86) ?_
            refine X191.caload hx (j := (1 : Int32)) (v := (.int c1)) (by rw [e191]; exact Ar196.1) (State.isArrayOf_alike hZ.alike Ar196.2.1) Ar196.2.2 hin196 hat196 (g := (mkF mi 87 #[.val (.ref v), .val (.int (Int32.ofNat nn))] [(.int 1), (.ref v), (.int 1), (.ref b185), (.ref b185), (.ref b180), (.ref b180)])) rfl rfl (hb hby dj48_87) _ ?_
            refine st197 _ ?_
            refine XS.dup X197.here hx rfl (hb hby dj48_89) rfl rfl ?_
            refine XS.iconst X197.here hx rfl (hb hby dj48_90) ?_
            refine XS.aloadN X197.here hx rfl (hb hby dj48_91) rfl rfl ?_
            refine XS.iconst X197.here hx rfl (hb hby dj48_92) ?_
            refine X197.caload hx (j := (2 : Int32)) (v := (.int c2)) (by rw [e197]; exact Ar201.1) (State.isArrayOf_alike hZ.alike Ar201.2.1) Ar201.2.2 hin201 hat201 (g := (mkF mi 93 #[.val (.ref v), .val (.int (Int32.ofNat nn))] [(.int 2), (.ref v), (.int 2), (.ref b185), (.ref b185), (.ref b180), (.ref b180)])) rfl rfl (hb hby dj48_93) _ ?_
            refine st202 _ ?_
            refine st209.trans ?_
            show SP pg ev below (T209.setTop (mkF mi 98 #[.val (.ref v), .val (.int (Int32.ofNat nn))] [(.ref b180)])) _
            jvm_step X209.here [X209.here.top, hx, (hb hby dj48_98), X209.method', Bd.returns, Value.isRef, FieldType.isReference]
            first | (intro acts; rw [hr _ acts rfl rfl rfl]) | rw [hr _ _ rfl rfl rfl]
            exact Steps.refl _
          · show Q_mak Z v kv nn c0 c1 c2 c3 zc hE n0 _ T209.heap _
            exact ⟨b180, t_209, rfl, N209, (((((((Keep.refl hE []).ext E180).ext E185).trans Kq191 (allS (Or.inr (Nat.le_trans E180.1 (Nat.le_of_eq q185.symm))) all0)).trans Kq197 (allS (Or.inr (Nat.le_trans E180.1 (Nat.le_of_eq q185.symm))) all0)).trans Kq202 (allS (Or.inr (Nat.le_trans E180.1 (Nat.le_of_eq q185.symm))) all0)).trans Kq209 (allS (Or.inr (Nat.le_of_eq q180.symm)) all0)), s214⟩
          · show CHr Z ELs sb.vm sb.heap T209.vm T209.heap
            rw [hh]
            exact CHr.trans C212 (CHv.at X209 hZ hEL C212.1)
        · obtain ⟨T215, h215, X215, e215, E215, A215, D215, -, st215⟩ := newO X0 hx hZ hown (wd9 hw) (wd10 hw) (wd11 hw) eE (g := (mkF mi 99 #[.val (.ref v), .val (.int (Int32.ofNat nn))] [])) rfl (hb hby dj48_99) (by decide) (by decide)
          obtain ⟨b215, q215⟩ : ∃ z, z = hE.size := ⟨_, rfl⟩
          rw [← q215] at A215 D215 st215
          have c216 := CHr.ext E215 C0.1
          have C217 := CHr.trans C0 c216
          have f218 : Fld Z h215 b215 c0_ "value" "[B" .null := D215 (Or.inr (wd24 hw)) (ty := (.array .byte)) (by decide)
          have f219 : Fld Z h215 b215 c0_ "coder" "B" (.int 0) := D215 (Or.inr (wd25 hw)) (ty := .byte) (by decide)
          obtain ⟨T220, h220, k220, X220, e220, E220, A220, st220⟩ := newP (aty := .char) X215 hx hZ (wd1 hw) e215 (g := (mkF mi 104 #[.val (.ref v), .val (.int (Int32.ofNat nn))] [(.int 4), (.ref b215), (.ref b215)])) rfl (hb hby dj48_104) rfl (by decide) (cap := 4) (by decide) (by decide) (by decide) (by decide)
          obtain ⟨b220, q220⟩ : ∃ z, z = h215.size := ⟨_, rfl⟩
          rw [← q220] at A220 st220
          have c221 := CHr.ext E220 C217.1
          have C222 := CHr.trans C217 c221
          have f223 : Arv Z h220 b220 k220 .char (4 : Int32) [(.int 0), (.int 0), (.int 0), (.int 0)] (.int 0) := (Arv.new A220 (by decide)).pad (pad_rep [] (.int 0) 4)
          have f224 : Arv Z h220 v kv .char (4 : Int32) [(.int c0), (.int c1), (.int c2), (.int c3)] (.int 0) := ((P0_.ext E215).ext E220)
          obtain ⟨cl225, Ar225, -, Sz225, Nn225, Hh225, -⟩ := id f224
          have hin225 : ¬ ((0 : Int32) < 0 ∨ cl225.slots.size ≤ ((0 : Int32)).toNatClampNeg) := inb_of Sz225 ⟨by decide, by decide⟩
          have hat225 : cl225.slots[((0 : Int32)).toNatClampNeg]? = some (.int c0) := Hh225.at hin225 rfl
          have O227 : Old Z n0 h215 := (O.ext E215)
          have g_b220 : n0 ≤ b220 := Nat.le_trans (Nat.le_trans (Nat.le_of_eq O227.1.symm) O227.2.1) (Nat.le_of_eq q220.symm)
          obtain ⟨T226, h226, L226, X226, e226, N226, Kq226, f226, st226⟩ := own_sc X220 hx hZ e220 f223 0 (c := c0) (j := (0 : Int32)) (own_nar_w hc0) rfl (by decide) (Nat.le_of_ble_eq_true rfl) N0 g_b220 (g := (mkF mi 111 #[.val (.ref v), .val (.int (Int32.ofNat nn))] [(.int c0), (.int 0), (.ref b220), (.ref b220), (.ref b215), (.ref b215)])) rfl rfl (hb hby dj48_111)
          have c228 := CHr.keep Kq226 (sfS (Safe.arv hZ.alike f223 (by decide)) sf0) C222.1
          have C229 := CHr.trans C222 c228
          have ne_v_b220 : v ≠ b220 := Nat.ne_of_lt (Nat.lt_of_lt_of_le P0_.lt (Nat.le_trans E215.1 (Nat.le_of_eq q220.symm)))
          have f230 : Arv Z h226 v kv .char (4 : Int32) [(.int c0), (.int c1), (.int c2), (.int c3)] (.int 0) := (f224.keep Kq226 (ninS ne_v_b220 nin0))
          obtain ⟨cl231, Ar231, -, Sz231, Nn231, Hh231, -⟩ := id f230
          have hin231 : ¬ ((1 : Int32) < 0 ∨ cl231.slots.size ≤ ((1 : Int32)).toNatClampNeg) := inb_of Sz231 ⟨by decide, by decide⟩
          have hat231 : cl231.slots[((1 : Int32)).toNatClampNeg]? = some (.int c1) := Hh231.at hin231 rfl
          obtain ⟨T232, h232, L232, X232, e232, N232, Kq232, f232, st232⟩ := own_sc X226 hx hZ e226 f226 1 (c := c1) (j := (1 : Int32)) (own_nar_w hc1) rfl (by decide) (Nat.le_of_ble_eq_true rfl) N226 g_b220 (g := (mkF mi 117 #[.val (.ref v), .val (.int (Int32.ofNat nn))] [(.int c1), (.int 1), (.ref b220), (.ref b220), (.ref b215), (.ref b215)])) rfl rfl (hb hby dj48_117)
          have c233 := CHr.keep Kq232 (sfS (Safe.arv hZ.alike f226 (by decide)) sf0) C229.1
          have C234 := CHr.trans C229 c233
          have f235 : Arv Z h232 v kv .char (4 : Int32) [(.int c0), (.int c1), (.int c2), (.int c3)] (.int 0) := (f230.keep Kq232 (ninS ne_v_b220 nin0))
          obtain ⟨cl236, Ar236, -, Sz236, Nn236, Hh236, -⟩ := id f235
          have hin236 : ¬ ((2 : Int32) < 0 ∨ cl236.slots.size ≤ ((2 : Int32)).toNatClampNeg) := inb_of Sz236 ⟨by decide, by decide⟩
          have hat236 : cl236.slots[((2 : Int32)).toNatClampNeg]? = some (.int c2) := Hh236.at hin236 rfl
          obtain ⟨T237, h237, L237, X237, e237, N237, Kq237, f237, st237⟩ := own_sc X232 hx hZ e232 f232 2 (c := c2) (j := (2 : Int32)) (own_nar_w hc2) rfl (by decide) (Nat.le_of_ble_eq_true rfl) N232 g_b220 (g := (mkF mi 123 #[.val (.ref v), .val (.int (Int32.ofNat nn))] [(.int c2), (.int 2), (.ref b220), (.ref b220), (.ref b215), (.ref b215)])) rfl rfl (hb hby dj48_123)
          have c238 := CHr.keep Kq237 (sfS (Safe.arv hZ.alike f232 (by decide)) sf0) C234.1
          have C239 := CHr.trans C234 c238
          have f240 : Arv Z h237 v kv .char (4 : Int32) [(.int c0), (.int c1), (.int c2), (.int c3)] (.int 0) := (f235.keep Kq237 (ninS ne_v_b220 nin0))
          obtain ⟨cl241, Ar241, -, Sz241, Nn241, Hh241, -⟩ := id f240
          have hin241 : ¬ ((3 : Int32) < 0 ∨ cl241.slots.size ≤ ((3 : Int32)).toNatClampNeg) := inb_of Sz241 ⟨by decide, by decide⟩
          have hat241 : cl241.slots[((3 : Int32)).toNatClampNeg]? = some (.int c3) := Hh241.at hin241 rfl
          obtain ⟨T242, h242, L242, X242, e242, N242, Kq242, f242, st242⟩ := own_sc X237 hx hZ e237 f237 3 (c := c3) (j := (3 : Int32)) (own_nar_w hc3) rfl (by decide) (Nat.le_of_ble_eq_true rfl) N237 g_b220 (g := (mkF mi 129 #[.val (.ref v), .val (.int (Int32.ofNat nn))] [(.int c3), (.int 3), (.ref b220), (.ref b220), (.ref b215), (.ref b215)])) rfl rfl (hb hby dj48_129)
          have c243 := CHr.keep Kq242 (sfS (Safe.arv hZ.alike f237 (by decide)) sf0) C239.1
          have C244 := CHr.trans C239 c243
          have O245 : Old Z n0 h242 := (((((O227.ext E220).keep Kq226 (allS g_b220 all0)).keep Kq232 (allS g_b220 all0)).keep Kq237 (allS g_b220 all0)).keep Kq242 (allS g_b220 all0))
          have f246 : Exa Z h242 b215 c0_ := (((((A215.ext E220).keep Kq226).keep Kq232).keep Kq237).keep Kq242)
          have ne_b215_b220 : b215 ≠ b220 := Nat.ne_of_lt (Nat.lt_of_lt_of_le A215.lt (Nat.le_trans (Nat.le_refl _) (Nat.le_of_eq q220.symm)))
          have f247 : Fld Z h242 b215 c0_ "value" "[B" .null := (((((f218.ext E220).keep Kq226 (ninS ne_b215_b220 nin0)).keep Kq232 (ninS ne_b215_b220 nin0)).keep Kq237 (ninS ne_b215_b220 nin0)).keep Kq242 (ninS ne_b215_b220 nin0))
          have f248 : Fld Z h242 b215 c0_ "coder" "B" (.int 0) := (((((f219.ext E220).keep Kq226 (ninS ne_b215_b220 nin0)).keep Kq232 (ninS ne_b215_b220 nin0)).keep Kq237 (ninS ne_b215_b220 nin0)).keep Kq242 (ninS ne_b215_b220 nin0))
          have g_b215 : n0 ≤ b215 := Nat.le_trans (Nat.le_trans (Nat.le_of_eq O.1.symm) O.2.1) (Nat.le_of_eq q215.symm)
          obtain ⟨v249, _, ⟨T249, L249, k249, n249⟩, -, X249, ⟨Lc249, hQ249, l249, y249, z249⟩, st249⟩ := X242.specialBack hx (y := mn21) rfl hown (mvT hZ (wd12 hw)) (mvT hZ (wd13 hw)) (mvT hZ (wd14 hw)) (by decide) (backOf (W := 1) (rm_sid la Z a0 hw [] b215 b220 k220 ([c0, c1, c2, c3] : List Int32) zc h242 n0 O245 f246 f247 f248 f242 D0_ D1_ D2_ D3_ g_b215 (Ne.symm ne_b215_b220) (by first | assumption | exact Nat.le_of_ble_eq_true rfl | rfl | decide | omega : 0 < ([c0, c1, c2, c3] : List Int32).length) (by first | assumption | exact Nat.le_of_ble_eq_true rfl | rfl | decide | omega : ([c0, c1, c2, c3] : List Int32).length ≤ 4) ((List.forall_mem_cons.mpr ⟨hc0, (List.forall_mem_cons.mpr ⟨hc1, (List.forall_mem_cons.mpr ⟨hc2, (List.forall_mem_cons.mpr ⟨hc3, (fun _ h => nomatch h)⟩)⟩)⟩)⟩) : ∀ c ∈ ([c0, c1, c2, c3] : List Int32), ¬ c < 0 ∧ ¬ (65535 : Int32) < c) (hzc : ¬ (zc = (0 : Int32)))) hZ (wd14 hw) (wd11 hw) (by decide) (by decide)) (g := (mkF mi 130 #[.val (.ref v), .val (.int (Int32.ofNat nn))] [(.ref b220), (.ref b215), (.ref b215)])) rfl (by rw [hml]; rfl) (Steps.refl _) (a := b215) (argsL := [(.ref b220)]) (rest := [(.ref b215)]) (lenOf pd_27 rfl) rfl (Nat.le_of_ble_eq_true rfl) (hb hby dj48_130) (fun _ _ => ⟨rfl, e242, (by decide : 2 + 2 ≤ _), (by decide : 8 + 12 ≤ _)⟩)
          dsimp only [Pt.U, Pt.locs, Pt.cells, Pt.slots] at X249 l249 y249 z249 st249 hQ249
          subst l249 y249 z249
          obtain ⟨t_249, rfl, Nq249, Kq249, fr_t_249, r249_0⟩ := hQ249
          have N249 := Fr.app N242 Nq249
          have sf251 : Safe Z ELs _ h242 b215 := (c243.safe (Nat.lt_of_lt_of_le A215.lt (Nat.le_trans (Nat.le_trans (Nat.le_trans E220.1 Kq226.1) Kq232.1) Kq237.1)) (c238.safe (Nat.lt_of_lt_of_le A215.lt (Nat.le_trans (Nat.le_trans E220.1 Kq226.1) Kq232.1)) (c233.safe (Nat.lt_of_lt_of_le A215.lt (Nat.le_trans E220.1 Kq226.1)) (c228.safe (Nat.lt_of_lt_of_le A215.lt E220.1) (c221.safe A215.lt (Safe.ext E215 C0.1 (Safe.new (Nat.le_of_eq q215.symm))))))))
          have c250 := CHr.keep Kq249 (sfS sf251 sf0) C244.1
          have C252 := CHr.trans C244 c250
          have sf253 : Safe Z ELs _ T249.heap t_249 := (Safe.keep Kq249 (sfS sf251 sf0) C244.1 (Safe.new fr_t_249))
          have s254 : WStr Z T249.heap b215 t_249 (([c0, c1, c2, c3] : List Int32).take nn) := by rw [show nn = 4 from by have : ¬ nn = 0 := fun z => hc101 ((own_eq8 (a := nn) (b := 0) (by omega) (by omega)).mpr z); have : ¬ nn = 1 := fun z => hc119 ((own_eq8 (a := nn) (b := 1) (by omega) (by omega)).mpr z); have : ¬ nn = 2 := fun z => hc146 ((own_eq8 (a := nn) (b := 2) (by omega) (by omega)).mpr z); have : ¬ nn = 3 := fun z => hc178 ((own_eq8 (a := nn) (b := 3) (by omega) (by omega)).mpr z); omega]; exact r249_0
          obtain ⟨fs, hr, hrun, hended, hWe⟩ := X249.leaveW hS (show _ ≤ T249.heap.size from (Nat.le_trans hk (Nat.le_trans (Nat.le_trans (Nat.le_trans (Nat.le_trans (Nat.le_trans (Nat.le_trans E215.1 E220.1) Kq226.1) Kq232.1) Kq237.1) Kq242.1) Kq249.1))) (v := some (.ref b215)) (fun hq => by rw [Bd.returns] at hq; cases hq)
          refine ⟨_, _, pre179 _ ?_, hrun, hended, _, _, rfl, ?_, ?_, hWe.1, hWe.2.1, hWe.2.2.1, hWe.2.2.2.mono (by decide) (by decide)⟩
          · show SP pg ev below (s₁.setTop (mkF mi 67 #[.val (.ref v), .val (.int (Int32.ofNat nn))] [(.int 3), (.int (Int32.ofNat nn))])) _
            refine XS.icmpYes X0.here hx rfl (pc0 := 67) (pc' := 99) rfl (hb hby dj48_67) rfl (feq hc178).2 (by decide) (by decide) ?_
            refine st215 _ ?_
            refine XS.dup X215.here hx rfl (hb hby dj48_102) rfl rfl ?_
            refine XS.iconst X215.here hx rfl (hb hby dj48_103) ?_
            refine st220 _ ?_
            refine XS.dup X220.here hx rfl (hb hby dj48_106) rfl rfl ?_
            refine XS.iconst X220.here hx rfl (hb hby dj48_107) ?_
            refine XS.aloadN X220.here hx rfl (hb hby dj48_108) rfl rfl ?_
            refine XS.iconst X220.here hx rfl (hb hby dj48_109) ?_
            refine X220.caload hx (j := (0 : Int32)) (v := (.int c0)) (by rw [e220]; exact Ar225.1) (State.isArrayOf_alike hZ.alike Ar225.2.1) Ar225.2.2 hin225 hat225 (g := (mkF mi 110 #[.val (.ref v), .val (.int (Int32.ofNat nn))] [(.int 0), (.ref v), (.int 0), (.ref b220), (.ref b220), (.ref b215), (.ref b215)])) rfl rfl (hb hby dj48_110) _ ?_
            refine st226 _ ?_
            refine XS.dup X226.here hx rfl (hb hby dj48_112) rfl rfl ?_
            refine XS.iconst X226.here hx rfl (hb hby dj48_113) ?_
            refine XS.aloadN X226.here hx rfl (hb hby dj48_114) rfl rfl ?_
            refine XS.iconst X226.here hx rfl (hb hby dj48_115) ?_
            refine X226.caload hx (j := (1 : Int32)) (v := (.int c1)) (by rw [e226]; exact Ar231.1) (State.isArrayOf_alike hZ.alike Ar231.2.1) Ar231.2.2 hin231 hat231 (g := (mkF mi 116 #[.val (.ref v), .val (.int (Int32.ofNat nn))] [(.int 1), (.ref v), (.int 1), (.ref b220), (.ref b220), (.ref b215), (.ref b215)])) rfl rfl (hb hby dj48_116) _ ?_
            refine st232 _ ?_
            refine XS.dup X232.here hx rfl (hb hby dj48_118) rfl rfl ?_
            refine XS.iconst X232.here hx rfl (hb hby dj48_119) ?_
            refine XS.aloadN X232.here hx rfl (hb hby dj48_120) rfl rfl ?_
            refine XS.iconst X232.here hx rfl (hb hby dj48_121) ?_
            refine X232.caload hx (j := (2 : Int32)) (v := (.int c2)) (by rw [e232]; exact Ar236.1) (State.isArrayOf_alike hZ.alike Ar236.2.1) Ar236.2.2 hin236 hat236 (g := (mkF mi 122 #[.val (.ref v), .val (.int (Int32.ofNat nn))] [(.int 2), (.ref v), (.int 2), (.ref b220), (.ref b220), (.ref b215), (.ref b215)])) rfl rfl (hb hby dj48_122) _ ?_
            refine st237 _ ?_
            refine XS.dup X237.here hx rfl (hb hby dj48_124) rfl rfl ?_
            refine XS.iconst X237.here hx rfl (hb hby dj48_125) ?_
            refine XS.aloadN X237.here hx rfl (hb hby dj48_126) rfl rfl ?_
            refine XS.iconst X237.here hx rfl (hb hby dj48_127) ?_
            refine X237.caload hx (j := (3 : Int32)) (v := (.int c3)) (by rw [e237]; exact Ar241.1) (State.isArrayOf_alike hZ.alike Ar241.2.1) Ar241.2.2 hin241 hat241 (g := (mkF mi 128 #[.val (.ref v), .val (.int (Int32.ofNat nn))] [(.int 3), (.ref v), (.int 3), (.ref b220), (.ref b220), (.ref b215), (.ref b215)])) rfl rfl (hb hby dj48_128) _ ?_
            refine st242 _ ?_
            refine st249.trans ?_
            show SP pg ev below (T249.setTop (mkF mi 133 #[.val (.ref v), .val (.int (Int32.ofNat nn))] [(.ref b215)])) _
            jvm_step X249.here [X249.here.top, hx, (hb hby dj48_133), X249.method', Bd.returns, Value.isRef, FieldType.isReference]
            first | (intro acts; rw [hr _ acts rfl rfl rfl]) | rw [hr _ _ rfl rfl rfl]
            exact Steps.refl _
          · show Q_mak Z v kv nn c0 c1 c2 c3 zc hE n0 _ T249.heap _
            exact ⟨b215, t_249, rfl, N249, ((((((((Keep.refl hE []).ext E215).ext E220).trans Kq226 (allS (Or.inr (Nat.le_trans E215.1 (Nat.le_of_eq q220.symm))) all0)).trans Kq232 (allS (Or.inr (Nat.le_trans E215.1 (Nat.le_of_eq q220.symm))) all0)).trans Kq237 (allS (Or.inr (Nat.le_trans E215.1 (Nat.le_of_eq q220.symm))) all0)).trans Kq242 (allS (Or.inr (Nat.le_trans E215.1 (Nat.le_of_eq q220.symm))) all0)).trans Kq249 (allS (Or.inr (Nat.le_of_eq q215.symm)) all0)), s254⟩
          · show CHr Z ELs sb.vm sb.heap T249.vm T249.heap
            rw [hh]
            exact CHr.trans C252 (CHv.at X249 hZ hEL C252.1)
theorem dj49_0 : decode jc49 0 = .ok (.iload_n 1, 1) := by decide +kernel
theorem dj49_1 : decode jc49 1 = .ok (.ifCond .le 13, 3) := by decide +kernel
theorem dj49_4 : decode jc49 4 = .ok (.aload_n 0, 1) := by decide +kernel
theorem dj49_5 : decode jc49 5 = .ok (.iconst 0, 1) := by decide +kernel
theorem dj49_6 : decode jc49 6 = .ok (.caload, 1) := by decide +kernel
theorem dj49_7 : decode jc49 7 = .ok (.bipush 35, 2) := by decide +kernel
theorem dj49_9 : decode jc49 9 = .ok (.if_icmp .ne 5, 3) := by decide +kernel
theorem dj49_12 : decode jc49 12 = .ok (.iconst 0, 1) := by decide +kernel
theorem dj49_13 : decode jc49 13 = .ok (.ireturn, 1) := by decide +kernel
theorem dj49_14 : decode jc49 14 = .ok (.iload_n 1, 1) := by decide +kernel
theorem dj49_15 : decode jc49 15 = .ok (.iconst 1, 1) := by decide +kernel
theorem dj49_16 : decode jc49 16 = .ok (.if_icmp .le 13, 3) := by decide +kernel
theorem dj49_19 : decode jc49 19 = .ok (.aload_n 0, 1) := by decide +kernel
theorem dj49_20 : decode jc49 20 = .ok (.iconst 1, 1) := by decide +kernel
theorem dj49_21 : decode jc49 21 = .ok (.caload, 1) := by decide +kernel
theorem dj49_22 : decode jc49 22 = .ok (.bipush 35, 2) := by decide +kernel
theorem dj49_24 : decode jc49 24 = .ok (.if_icmp .ne 5, 3) := by decide +kernel
theorem dj49_27 : decode jc49 27 = .ok (.iconst 1, 1) := by decide +kernel
theorem dj49_28 : decode jc49 28 = .ok (.ireturn, 1) := by decide +kernel
theorem dj49_29 : decode jc49 29 = .ok (.iload_n 1, 1) := by decide +kernel
theorem dj49_30 : decode jc49 30 = .ok (.iconst 2, 1) := by decide +kernel
theorem dj49_31 : decode jc49 31 = .ok (.if_icmp .le 13, 3) := by decide +kernel
theorem dj49_34 : decode jc49 34 = .ok (.aload_n 0, 1) := by decide +kernel
theorem dj49_35 : decode jc49 35 = .ok (.iconst 2, 1) := by decide +kernel
theorem dj49_36 : decode jc49 36 = .ok (.caload, 1) := by decide +kernel
theorem dj49_37 : decode jc49 37 = .ok (.bipush 35, 2) := by decide +kernel
theorem dj49_39 : decode jc49 39 = .ok (.if_icmp .ne 5, 3) := by decide +kernel
theorem dj49_42 : decode jc49 42 = .ok (.iconst 2, 1) := by decide +kernel
theorem dj49_43 : decode jc49 43 = .ok (.ireturn, 1) := by decide +kernel
theorem dj49_44 : decode jc49 44 = .ok (.iload_n 1, 1) := by decide +kernel
theorem dj49_45 : decode jc49 45 = .ok (.iconst 3, 1) := by decide +kernel
theorem dj49_46 : decode jc49 46 = .ok (.if_icmp .le 13, 3) := by decide +kernel
theorem dj49_49 : decode jc49 49 = .ok (.aload_n 0, 1) := by decide +kernel
theorem dj49_50 : decode jc49 50 = .ok (.iconst 3, 1) := by decide +kernel
theorem dj49_51 : decode jc49 51 = .ok (.caload, 1) := by decide +kernel
theorem dj49_52 : decode jc49 52 = .ok (.bipush 35, 2) := by decide +kernel
theorem dj49_54 : decode jc49 54 = .ok (.if_icmp .ne 5, 3) := by decide +kernel
theorem dj49_57 : decode jc49 57 = .ok (.iconst 3, 1) := by decide +kernel
theorem dj49_58 : decode jc49 58 = .ok (.ireturn, 1) := by decide +kernel
theorem dj49_59 : decode jc49 59 = .ok (.iconst (-1), 1) := by decide +kernel
theorem dj49_60 : decode jc49 60 = .ok (.ireturn, 1) := by decide +kernel
theorem ef_fhX (mi : MethodId) (v : Addr) (nn : Nat) : entryFrame mi #[(.ref v), (.int (Int32.ofNat nn))] 2 = mkF mi 0 #[.val (.ref v), .val (.int (Int32.ofNat nn))] [] := rfl
def Q_fhX (Z : State) (v : Addr) (kv : ClassId) (nn : Nat) (c0 c1 c2 c3 : Int32) (hE : Heap) (n0 : Nat) (vv : Option Value) (hh : Heap) (LL : List Loc) : Prop := (vv = some (.int (ixG 0 (([c0, c1, c2, c3] : List Int32).take nn)))) ∧ (Fr n0 LL) ∧ (hh = hE)
theorem rm_fhX (hw : HW a0 Z) (ws : List Cond) (v : Addr) (kv : ClassId) (nn : Nat) (c0 c1 c2 c3 : Int32) (hE : Heap) (n0 : Nat) (O : Old Z n0 hE) (P0_ : Arv Z hE v kv .char (4 : Int32) [(.int c0), (.int c1), (.int c2), (.int c3)] (.int 0)) (hn4 : nn ≤ 4) :
    MF la Z hE mn48 jc49 2 (some .int) ws (rr 0 0 0 0) #[(.ref v), (.int (Int32.ofNat nn))] (Q_fhX Z v kv nn c0 c1 c2 c3 hE n0) := by
  refine MetFree.of_bodySF (plainFor_of_name pn_com_example_detangle_detangle_TestListCaseNamePinLaw) hisR ?_
  intro pg ev sb mi gs below me cd s₁ Bd hml0 hPt hKt
  obtain ⟨rfl, hZ, hh⟩ := hPt
  have hx := Bd.exec
  have hby := Bd.bytes
  have hml : cd.maxLocals = 2 := hml0
  have hown : sb.vm.findClass c2_ = some mi.cls := findClass_of_methodNamed Bd.named
  have X0 : Stand pg la ev (rr 0 0 0 0) sb mi #[(.ref v), (.int (Int32.ofNat nn))] below me cd s₁ [] 0 0 := Stand.of_body Bd
  have eE : s₁.heap = hE := by rw [← hh, Bd.state]; rfl
  have N0 := Fr.nil n0
  have pre0 : ∀ tt, SP pg ev below (s₁.setTop (mkF mi 0 #[.val (.ref v), .val (.int (Int32.ofNat nn))] [])) tt → SP pg ev below (s₁.setTop (entryFrame mi #[(.ref v), (.int (Int32.ofNat nn))] 2)) tt := fun tt kk => castTop (ef_fhX mi v nn) kk
  have pre102 : ∀ tt, SP pg ev below (s₁.setTop (mkF mi 1 #[.val (.ref v), .val (.int (Int32.ofNat nn))] [(.int (Int32.ofNat nn))])) tt → SP pg ev below (s₁.setTop (entryFrame mi #[(.ref v), (.int (Int32.ofNat nn))] 2)) tt := fun tt kk => pre0 _ (by
    show SP pg ev below (s₁.setTop (mkF mi 0 #[.val (.ref v), .val (.int (Int32.ofNat nn))] [])) _
    refine XS.iloadN X0.here hx rfl (hb hby dj49_0) rfl ?_
    exact kk)
  by_cases hc101 : (0 : Int32) < (Int32.ofNat nn)
  · obtain ⟨cl103, Ar103, -, Sz103, Nn103, Hh103, -⟩ := id P0_
    have hin103 : ¬ ((0 : Int32) < 0 ∨ cl103.slots.size ≤ ((0 : Int32)).toNatClampNeg) := inb_of Sz103 ⟨by decide, by decide⟩
    have hat103 : cl103.slots[((0 : Int32)).toNatClampNeg]? = some (.int c0) := Hh103.at hin103 rfl
    have pre105 : ∀ tt, SP pg ev below (s₁.setTop (mkF mi 9 #[.val (.ref v), .val (.int (Int32.ofNat nn))] [(.int 35), (.int c0)])) tt → SP pg ev below (s₁.setTop (entryFrame mi #[(.ref v), (.int (Int32.ofNat nn))] 2)) tt := fun tt kk => pre102 _ (by
      show SP pg ev below (s₁.setTop (mkF mi 1 #[.val (.ref v), .val (.int (Int32.ofNat nn))] [(.int (Int32.ofNat nn))])) _
      refine XS.ifNo X0.here hx rfl (hb hby dj49_1) rfl ((if0 _ _).trans (tlt hc101).2.2.2) ?_
      refine XS.aloadN X0.here hx rfl (hb hby dj49_4) rfl rfl ?_
      refine XS.iconst X0.here hx rfl (hb hby dj49_5) ?_
      refine X0.caload hx (j := (0 : Int32)) (v := (.int c0)) (by rw [eE]; exact Ar103.1) (State.isArrayOf_alike hZ.alike Ar103.2.1) Ar103.2.2 hin103 hat103 (g := (mkF mi 6 #[.val (.ref v), .val (.int (Int32.ofNat nn))] [(.int 0), (.ref v)])) rfl rfl (hb hby dj49_6) _ ?_
      refine XS.bipush X0.here hx rfl (hb hby dj49_7) ?_
      exact kk)
    by_cases hc104 : c0 = (35 : Int32)
    · obtain ⟨fs, hr, hrun, hended, hW, hsame⟩ := X0.leave (v := some (.int 0)) (fun hq => by rw [Bd.returns] at hq; cases hq)
      refine ⟨_, _, pre105 _ ?_, hrun, hended, _, _, rfl, ?_, ⟨_, rfl⟩, hW, hsame.mono (by decide) (by decide)⟩
      · show SP pg ev below (s₁.setTop (mkF mi 9 #[.val (.ref v), .val (.int (Int32.ofNat nn))] [(.int 35), (.int c0)])) _
        refine XS.icmpNo X0.here hx rfl (hb hby dj49_9) rfl (teq hc104).2 ?_
        refine XS.iconst X0.here hx rfl (hb hby dj49_12) ?_
        show SP pg ev below (s₁.setTop (mkF mi 13 #[.val (.ref v), .val (.int (Int32.ofNat nn))] [(.int 0)])) _
        exact retI X0 hx Bd.returns (hb hby dj49_13) hr
      · show Q_fhX Z v kv nn c0 c1 c2 c3 hE n0 _ s₁.heap _
        rw [eE]
        exact ⟨(congrArg (fun z => some (Value.int z)) (own_ix_hit0 (([c0, c1, c2, c3] : List Int32).take nn) 0 (by rw [(show (([c0, c1, c2, c3] : List Int32).take nn).length = nn from by rw [List.length_take]; show min nn 4 = nn; omega)]; exact ((own_lt8 (a := 0) (b := nn) (by omega) (by omega)).mp hc101)) own_lt0 ((own_getD_take (cs := ([c0, c1, c2, c3] : List Int32)) (m := nn) (i := 0) (by have := ((own_lt8 (a := 0) (b := nn) (by omega) (by omega)).mp hc101); omega)).trans hc104)).symm), N0, rfl⟩
    · have pre107 : ∀ tt, SP pg ev below (s₁.setTop (mkF mi 16 #[.val (.ref v), .val (.int (Int32.ofNat nn))] [(.int 1), (.int (Int32.ofNat nn))])) tt → SP pg ev below (s₁.setTop (entryFrame mi #[(.ref v), (.int (Int32.ofNat nn))] 2)) tt := fun tt kk => pre105 _ (by
        show SP pg ev below (s₁.setTop (mkF mi 9 #[.val (.ref v), .val (.int (Int32.ofNat nn))] [(.int 35), (.int c0)])) _
        refine XS.icmpYes X0.here hx rfl (pc0 := 9) (pc' := 14) rfl (hb hby dj49_9) rfl (feq hc104).2 (by decide) (by decide) ?_
        refine XS.iloadN X0.here hx rfl (hb hby dj49_14) rfl ?_
        refine XS.iconst X0.here hx rfl (hb hby dj49_15) ?_
        exact kk)
      by_cases hc106 : (1 : Int32) < (Int32.ofNat nn)
      · obtain ⟨cl108, Ar108, -, Sz108, Nn108, Hh108, -⟩ := id P0_
        have hin108 : ¬ ((1 : Int32) < 0 ∨ cl108.slots.size ≤ ((1 : Int32)).toNatClampNeg) := inb_of Sz108 ⟨by decide, by decide⟩
        have hat108 : cl108.slots[((1 : Int32)).toNatClampNeg]? = some (.int c1) := Hh108.at hin108 rfl
        have pre110 : ∀ tt, SP pg ev below (s₁.setTop (mkF mi 24 #[.val (.ref v), .val (.int (Int32.ofNat nn))] [(.int 35), (.int c1)])) tt → SP pg ev below (s₁.setTop (entryFrame mi #[(.ref v), (.int (Int32.ofNat nn))] 2)) tt := fun tt kk => pre107 _ (by
          show SP pg ev below (s₁.setTop (mkF mi 16 #[.val (.ref v), .val (.int (Int32.ofNat nn))] [(.int 1), (.int (Int32.ofNat nn))])) _
          refine XS.icmpNo X0.here hx rfl (hb hby dj49_16) rfl (tlt hc106).2.2.2 ?_
          refine XS.aloadN X0.here hx rfl (hb hby dj49_19) rfl rfl ?_
          refine XS.iconst X0.here hx rfl (hb hby dj49_20) ?_
          refine X0.caload hx (j := (1 : Int32)) (v := (.int c1)) (by rw [eE]; exact Ar108.1) (State.isArrayOf_alike hZ.alike Ar108.2.1) Ar108.2.2 hin108 hat108 (g := (mkF mi 21 #[.val (.ref v), .val (.int (Int32.ofNat nn))] [(.int 1), (.ref v)])) rfl rfl (hb hby dj49_21) _ ?_
          refine XS.bipush X0.here hx rfl (hb hby dj49_22) ?_
          exact kk)
        by_cases hc109 : c1 = (35 : Int32)
        · obtain ⟨fs, hr, hrun, hended, hW, hsame⟩ := X0.leave (v := some (.int 1)) (fun hq => by rw [Bd.returns] at hq; cases hq)
          refine ⟨_, _, pre110 _ ?_, hrun, hended, _, _, rfl, ?_, ⟨_, rfl⟩, hW, hsame.mono (by decide) (by decide)⟩
          · show SP pg ev below (s₁.setTop (mkF mi 24 #[.val (.ref v), .val (.int (Int32.ofNat nn))] [(.int 35), (.int c1)])) _
            refine XS.icmpNo X0.here hx rfl (hb hby dj49_24) rfl (teq hc109).2 ?_
            refine XS.iconst X0.here hx rfl (hb hby dj49_27) ?_
            show SP pg ev below (s₁.setTop (mkF mi 28 #[.val (.ref v), .val (.int (Int32.ofNat nn))] [(.int 1)])) _
            exact retI X0 hx Bd.returns (hb hby dj49_28) hr
          · show Q_fhX Z v kv nn c0 c1 c2 c3 hE n0 _ s₁.heap _
            rw [eE]
            exact ⟨(congrArg (fun z => some (Value.int z)) (own_ix_hit0 (([c0, c1, c2, c3] : List Int32).take nn) 1 (by rw [(show (([c0, c1, c2, c3] : List Int32).take nn).length = nn from by rw [List.length_take]; show min nn 4 = nn; omega)]; exact ((own_lt8 (a := 1) (b := nn) (by omega) (by omega)).mp hc106)) (own_ltS own_lt0 (fun q => hc104 (((own_getD_take (cs := ([c0, c1, c2, c3] : List Int32)) (m := nn) (i := 0) (by have := ((own_lt8 (a := 0) (b := nn) (by omega) (by omega)).mp hc101); omega))).symm.trans q))) ((own_getD_take (cs := ([c0, c1, c2, c3] : List Int32)) (m := nn) (i := 1) (by have := ((own_lt8 (a := 1) (b := nn) (by omega) (by omega)).mp hc106); omega)).trans hc109)).symm), N0, rfl⟩
        · have pre112 : ∀ tt, SP pg ev below (s₁.setTop (mkF mi 31 #[.val (.ref v), .val (.int (Int32.ofNat nn))] [(.int 2), (.int (Int32.ofNat nn))])) tt → SP pg ev below (s₁.setTop (entryFrame mi #[(.ref v), (.int (Int32.ofNat nn))] 2)) tt := fun tt kk => pre110 _ (by
            show SP pg ev below (s₁.setTop (mkF mi 24 #[.val (.ref v), .val (.int (Int32.ofNat nn))] [(.int 35), (.int c1)])) _
            refine XS.icmpYes X0.here hx rfl (pc0 := 24) (pc' := 29) rfl (hb hby dj49_24) rfl (feq hc109).2 (by decide) (by decide) ?_
            refine XS.iloadN X0.here hx rfl (hb hby dj49_29) rfl ?_
            refine XS.iconst X0.here hx rfl (hb hby dj49_30) ?_
            exact kk)
          by_cases hc111 : (2 : Int32) < (Int32.ofNat nn)
          · obtain ⟨cl113, Ar113, -, Sz113, Nn113, Hh113, -⟩ := id P0_
            have hin113 : ¬ ((2 : Int32) < 0 ∨ cl113.slots.size ≤ ((2 : Int32)).toNatClampNeg) := inb_of Sz113 ⟨by decide, by decide⟩
            have hat113 : cl113.slots[((2 : Int32)).toNatClampNeg]? = some (.int c2) := Hh113.at hin113 rfl
            have pre115 : ∀ tt, SP pg ev below (s₁.setTop (mkF mi 39 #[.val (.ref v), .val (.int (Int32.ofNat nn))] [(.int 35), (.int c2)])) tt → SP pg ev below (s₁.setTop (entryFrame mi #[(.ref v), (.int (Int32.ofNat nn))] 2)) tt := fun tt kk => pre112 _ (by
              show SP pg ev below (s₁.setTop (mkF mi 31 #[.val (.ref v), .val (.int (Int32.ofNat nn))] [(.int 2), (.int (Int32.ofNat nn))])) _
              refine XS.icmpNo X0.here hx rfl (hb hby dj49_31) rfl (tlt hc111).2.2.2 ?_
              refine XS.aloadN X0.here hx rfl (hb hby dj49_34) rfl rfl ?_
              refine XS.iconst X0.here hx rfl (hb hby dj49_35) ?_
              refine X0.caload hx (j := (2 : Int32)) (v := (.int c2)) (by rw [eE]; exact Ar113.1) (State.isArrayOf_alike hZ.alike Ar113.2.1) Ar113.2.2 hin113 hat113 (g := (mkF mi 36 #[.val (.ref v), .val (.int (Int32.ofNat nn))] [(.int 2), (.ref v)])) rfl rfl (hb hby dj49_36) _ ?_
              refine XS.bipush X0.here hx rfl (hb hby dj49_37) ?_
              exact kk)
            by_cases hc114 : c2 = (35 : Int32)
            · obtain ⟨fs, hr, hrun, hended, hW, hsame⟩ := X0.leave (v := some (.int 2)) (fun hq => by rw [Bd.returns] at hq; cases hq)
              refine ⟨_, _, pre115 _ ?_, hrun, hended, _, _, rfl, ?_, ⟨_, rfl⟩, hW, hsame.mono (by decide) (by decide)⟩
              · show SP pg ev below (s₁.setTop (mkF mi 39 #[.val (.ref v), .val (.int (Int32.ofNat nn))] [(.int 35), (.int c2)])) _
                refine XS.icmpNo X0.here hx rfl (hb hby dj49_39) rfl (teq hc114).2 ?_
                refine XS.iconst X0.here hx rfl (hb hby dj49_42) ?_
                show SP pg ev below (s₁.setTop (mkF mi 43 #[.val (.ref v), .val (.int (Int32.ofNat nn))] [(.int 2)])) _
                exact retI X0 hx Bd.returns (hb hby dj49_43) hr
              · show Q_fhX Z v kv nn c0 c1 c2 c3 hE n0 _ s₁.heap _
                rw [eE]
                exact ⟨(congrArg (fun z => some (Value.int z)) (own_ix_hit0 (([c0, c1, c2, c3] : List Int32).take nn) 2 (by rw [(show (([c0, c1, c2, c3] : List Int32).take nn).length = nn from by rw [List.length_take]; show min nn 4 = nn; omega)]; exact ((own_lt8 (a := 2) (b := nn) (by omega) (by omega)).mp hc111)) (own_ltS (own_ltS own_lt0 (fun q => hc104 (((own_getD_take (cs := ([c0, c1, c2, c3] : List Int32)) (m := nn) (i := 0) (by have := ((own_lt8 (a := 0) (b := nn) (by omega) (by omega)).mp hc101); omega))).symm.trans q))) (fun q => hc109 (((own_getD_take (cs := ([c0, c1, c2, c3] : List Int32)) (m := nn) (i := 1) (by have := ((own_lt8 (a := 1) (b := nn) (by omega) (by omega)).mp hc106); omega))).symm.trans q))) ((own_getD_take (cs := ([c0, c1, c2, c3] : List Int32)) (m := nn) (i := 2) (by have := ((own_lt8 (a := 2) (b := nn) (by omega) (by omega)).mp hc111); omega)).trans hc114)).symm), N0, rfl⟩
            · have pre117 : ∀ tt, SP pg ev below (s₁.setTop (mkF mi 46 #[.val (.ref v), .val (.int (Int32.ofNat nn))] [(.int 3), (.int (Int32.ofNat nn))])) tt → SP pg ev below (s₁.setTop (entryFrame mi #[(.ref v), (.int (Int32.ofNat nn))] 2)) tt := fun tt kk => pre115 _ (by
                show SP pg ev below (s₁.setTop (mkF mi 39 #[.val (.ref v), .val (.int (Int32.ofNat nn))] [(.int 35), (.int c2)])) _
                refine XS.icmpYes X0.here hx rfl (pc0 := 39) (pc' := 44) rfl (hb hby dj49_39) rfl (feq hc114).2 (by decide) (by decide) ?_
                refine XS.iloadN X0.here hx rfl (hb hby dj49_44) rfl ?_
                refine XS.iconst X0.here hx rfl (hb hby dj49_45) ?_
                exact kk)
              by_cases hc116 : (3 : Int32) < (Int32.ofNat nn)
              · obtain ⟨cl118, Ar118, -, Sz118, Nn118, Hh118, -⟩ := id P0_
                have hin118 : ¬ ((3 : Int32) < 0 ∨ cl118.slots.size ≤ ((3 : Int32)).toNatClampNeg) := inb_of Sz118 ⟨by decide, by decide⟩
                have hat118 : cl118.slots[((3 : Int32)).toNatClampNeg]? = some (.int c3) := Hh118.at hin118 rfl
                have pre120 : ∀ tt, SP pg ev below (s₁.setTop (mkF mi 54 #[.val (.ref v), .val (.int (Int32.ofNat nn))] [(.int 35), (.int c3)])) tt → SP pg ev below (s₁.setTop (entryFrame mi #[(.ref v), (.int (Int32.ofNat nn))] 2)) tt := fun tt kk => pre117 _ (by
                  show SP pg ev below (s₁.setTop (mkF mi 46 #[.val (.ref v), .val (.int (Int32.ofNat nn))] [(.int 3), (.int (Int32.ofNat nn))])) _
                  refine XS.icmpNo X0.here hx rfl (hb hby dj49_46) rfl (tlt hc116).2.2.2 ?_
                  refine XS.aloadN X0.here hx rfl (hb hby dj49_49) rfl rfl ?_
                  refine XS.iconst X0.here hx rfl (hb hby dj49_50) ?_
                  refine X0.caload hx (j := (3 : Int32)) (v := (.int c3)) (by rw [eE]; exact Ar118.1) (State.isArrayOf_alike hZ.alike Ar118.2.1) Ar118.2.2 hin118 hat118 (g := (mkF mi 51 #[.val (.ref v), .val (.int (Int32.ofNat nn))] [(.int 3), (.ref v)])) rfl rfl (hb hby dj49_51) _ ?_
                  refine XS.bipush X0.here hx rfl (hb hby dj49_52) ?_
                  exact kk)
                by_cases hc119 : c3 = (35 : Int32)
                · obtain ⟨fs, hr, hrun, hended, hW, hsame⟩ := X0.leave (v := some (.int 3)) (fun hq => by rw [Bd.returns] at hq; cases hq)
                  refine ⟨_, _, pre120 _ ?_, hrun, hended, _, _, rfl, ?_, ⟨_, rfl⟩, hW, hsame.mono (by decide) (by decide)⟩
                  · show SP pg ev below (s₁.setTop (mkF mi 54 #[.val (.ref v), .val (.int (Int32.ofNat nn))] [(.int 35), (.int c3)])) _
                    refine XS.icmpNo X0.here hx rfl (hb hby dj49_54) rfl (teq hc119).2 ?_
                    refine XS.iconst X0.here hx rfl (hb hby dj49_57) ?_
                    show SP pg ev below (s₁.setTop (mkF mi 58 #[.val (.ref v), .val (.int (Int32.ofNat nn))] [(.int 3)])) _
                    exact retI X0 hx Bd.returns (hb hby dj49_58) hr
                  · show Q_fhX Z v kv nn c0 c1 c2 c3 hE n0 _ s₁.heap _
                    rw [eE]
                    exact ⟨(congrArg (fun z => some (Value.int z)) (own_ix_hit0 (([c0, c1, c2, c3] : List Int32).take nn) 3 (by rw [(show (([c0, c1, c2, c3] : List Int32).take nn).length = nn from by rw [List.length_take]; show min nn 4 = nn; omega)]; exact ((own_lt8 (a := 3) (b := nn) (by omega) (by omega)).mp hc116)) (own_ltS (own_ltS (own_ltS own_lt0 (fun q => hc104 (((own_getD_take (cs := ([c0, c1, c2, c3] : List Int32)) (m := nn) (i := 0) (by have := ((own_lt8 (a := 0) (b := nn) (by omega) (by omega)).mp hc101); omega))).symm.trans q))) (fun q => hc109 (((own_getD_take (cs := ([c0, c1, c2, c3] : List Int32)) (m := nn) (i := 1) (by have := ((own_lt8 (a := 1) (b := nn) (by omega) (by omega)).mp hc106); omega))).symm.trans q))) (fun q => hc114 (((own_getD_take (cs := ([c0, c1, c2, c3] : List Int32)) (m := nn) (i := 2) (by have := ((own_lt8 (a := 2) (b := nn) (by omega) (by omega)).mp hc111); omega))).symm.trans q))) ((own_getD_take (cs := ([c0, c1, c2, c3] : List Int32)) (m := nn) (i := 3) (by have := ((own_lt8 (a := 3) (b := nn) (by omega) (by omega)).mp hc116); omega)).trans hc119)).symm), N0, rfl⟩
                · obtain ⟨fs, hr, hrun, hended, hW, hsame⟩ := X0.leave (v := some (.int (-1))) (fun hq => by rw [Bd.returns] at hq; cases hq)
                  refine ⟨_, _, pre120 _ ?_, hrun, hended, _, _, rfl, ?_, ⟨_, rfl⟩, hW, hsame.mono (by decide) (by decide)⟩
                  · show SP pg ev below (s₁.setTop (mkF mi 54 #[.val (.ref v), .val (.int (Int32.ofNat nn))] [(.int 35), (.int c3)])) _
                    refine XS.icmpYes X0.here hx rfl (pc0 := 54) (pc' := 59) rfl (hb hby dj49_54) rfl (feq hc119).2 (by decide) (by decide) ?_
                    refine XS.iconst X0.here hx rfl (hb hby dj49_59) ?_
                    show SP pg ev below (s₁.setTop (mkF mi 60 #[.val (.ref v), .val (.int (Int32.ofNat nn))] [(.int (-1))])) _
                    exact retI X0 hx Bd.returns (hb hby dj49_60) hr
                  · show Q_fhX Z v kv nn c0 c1 c2 c3 hE n0 _ s₁.heap _
                    rw [eE]
                    exact ⟨(congrArg (fun z => some (Value.int z)) (own_ix_out (([c0, c1, c2, c3] : List Int32).take nn) 0 (fun j hj => (show ∀ j, j < 4 → ¬ ((([c0, c1, c2, c3] : List Int32).take nn)).getD j 0 = (35 : Int32) from (own_ltS (own_ltS (own_ltS (own_ltS own_lt0 (fun q => hc104 (((own_getD_take (cs := ([c0, c1, c2, c3] : List Int32)) (m := nn) (i := 0) (by have := ((own_lt8 (a := 0) (b := nn) (by omega) (by omega)).mp hc101); omega))).symm.trans q))) (fun q => hc109 (((own_getD_take (cs := ([c0, c1, c2, c3] : List Int32)) (m := nn) (i := 1) (by have := ((own_lt8 (a := 1) (b := nn) (by omega) (by omega)).mp hc106); omega))).symm.trans q))) (fun q => hc114 (((own_getD_take (cs := ([c0, c1, c2, c3] : List Int32)) (m := nn) (i := 2) (by have := ((own_lt8 (a := 2) (b := nn) (by omega) (by omega)).mp hc111); omega))).symm.trans q))) (fun q => hc119 (((own_getD_take (cs := ([c0, c1, c2, c3] : List Int32)) (m := nn) (i := 3) (by have := ((own_lt8 (a := 3) (b := nn) (by omega) (by omega)).mp hc116); omega))).symm.trans q)))) j (by rw [(show (([c0, c1, c2, c3] : List Int32).take nn).length = nn from by rw [List.length_take]; show min nn 4 = nn; omega)] at hj; omega))).symm), N0, rfl⟩
              · obtain ⟨fs, hr, hrun, hended, hW, hsame⟩ := X0.leave (v := some (.int (-1))) (fun hq => by rw [Bd.returns] at hq; cases hq)
                refine ⟨_, _, pre117 _ ?_, hrun, hended, _, _, rfl, ?_, ⟨_, rfl⟩, hW, hsame.mono (by decide) (by decide)⟩
                · show SP pg ev below (s₁.setTop (mkF mi 46 #[.val (.ref v), .val (.int (Int32.ofNat nn))] [(.int 3), (.int (Int32.ofNat nn))])) _
                  refine XS.icmpYes X0.here hx rfl (pc0 := 46) (pc' := 59) rfl (hb hby dj49_46) rfl (flt hc116).2.2.2 (by decide) (by decide) ?_
                  refine XS.iconst X0.here hx rfl (hb hby dj49_59) ?_
                  show SP pg ev below (s₁.setTop (mkF mi 60 #[.val (.ref v), .val (.int (Int32.ofNat nn))] [(.int (-1))])) _
                  exact retI X0 hx Bd.returns (hb hby dj49_60) hr
                · show Q_fhX Z v kv nn c0 c1 c2 c3 hE n0 _ s₁.heap _
                  rw [eE]
                  exact ⟨(congrArg (fun z => some (Value.int z)) (own_ix_out (([c0, c1, c2, c3] : List Int32).take nn) 0 (fun j hj => (show ∀ j, j < 3 → ¬ ((([c0, c1, c2, c3] : List Int32).take nn)).getD j 0 = (35 : Int32) from (own_ltS (own_ltS (own_ltS own_lt0 (fun q => hc104 (((own_getD_take (cs := ([c0, c1, c2, c3] : List Int32)) (m := nn) (i := 0) (by have := ((own_lt8 (a := 0) (b := nn) (by omega) (by omega)).mp hc101); omega))).symm.trans q))) (fun q => hc109 (((own_getD_take (cs := ([c0, c1, c2, c3] : List Int32)) (m := nn) (i := 1) (by have := ((own_lt8 (a := 1) (b := nn) (by omega) (by omega)).mp hc106); omega))).symm.trans q))) (fun q => hc114 (((own_getD_take (cs := ([c0, c1, c2, c3] : List Int32)) (m := nn) (i := 2) (by have := ((own_lt8 (a := 2) (b := nn) (by omega) (by omega)).mp hc111); omega))).symm.trans q)))) j (by rw [(show (([c0, c1, c2, c3] : List Int32).take nn).length = nn from by rw [List.length_take]; show min nn 4 = nn; omega)] at hj; have := (show ¬ (3 < nn) from fun z => hc116 ((own_lt8 (a := 3) (b := nn) (by omega) (by omega)).mpr z)); omega))).symm), N0, rfl⟩
          · obtain ⟨fs, hr, hrun, hended, hW, hsame⟩ := X0.leave (v := some (.int (-1))) (fun hq => by rw [Bd.returns] at hq; cases hq)
            refine ⟨_, _, pre112 _ ?_, hrun, hended, _, _, rfl, ?_, ⟨_, rfl⟩, hW, hsame.mono (by decide) (by decide)⟩
            · show SP pg ev below (s₁.setTop (mkF mi 31 #[.val (.ref v), .val (.int (Int32.ofNat nn))] [(.int 2), (.int (Int32.ofNat nn))])) _
              refine XS.icmpYes X0.here hx rfl (pc0 := 31) (pc' := 44) rfl (hb hby dj49_31) rfl (flt hc111).2.2.2 (by decide) (by decide) ?_
              refine XS.iloadN X0.here hx rfl (hb hby dj49_44) rfl ?_
              refine XS.iconst X0.here hx rfl (hb hby dj49_45) ?_
              refine XS.icmpYes X0.here hx rfl (pc0 := 46) (pc' := 59) rfl (hb hby dj49_46) rfl (flt (fun q => absurd ((own_lt8 (a := 3) (b := nn) (by omega) (by omega)).mp q) (by have := (show ¬ (2 < nn) from fun z => hc111 ((own_lt8 (a := 2) (b := nn) (by omega) (by omega)).mpr z)); omega))).2.2.2 (by decide) (by decide) ?_
              refine XS.iconst X0.here hx rfl (hb hby dj49_59) ?_
              show SP pg ev below (s₁.setTop (mkF mi 60 #[.val (.ref v), .val (.int (Int32.ofNat nn))] [(.int (-1))])) _
              exact retI X0 hx Bd.returns (hb hby dj49_60) hr
            · show Q_fhX Z v kv nn c0 c1 c2 c3 hE n0 _ s₁.heap _
              rw [eE]
              exact ⟨(congrArg (fun z => some (Value.int z)) (own_ix_out (([c0, c1, c2, c3] : List Int32).take nn) 0 (fun j hj => (show ∀ j, j < 2 → ¬ ((([c0, c1, c2, c3] : List Int32).take nn)).getD j 0 = (35 : Int32) from (own_ltS (own_ltS own_lt0 (fun q => hc104 (((own_getD_take (cs := ([c0, c1, c2, c3] : List Int32)) (m := nn) (i := 0) (by have := ((own_lt8 (a := 0) (b := nn) (by omega) (by omega)).mp hc101); omega))).symm.trans q))) (fun q => hc109 (((own_getD_take (cs := ([c0, c1, c2, c3] : List Int32)) (m := nn) (i := 1) (by have := ((own_lt8 (a := 1) (b := nn) (by omega) (by omega)).mp hc106); omega))).symm.trans q)))) j (by rw [(show (([c0, c1, c2, c3] : List Int32).take nn).length = nn from by rw [List.length_take]; show min nn 4 = nn; omega)] at hj; have := (show ¬ (2 < nn) from fun z => hc111 ((own_lt8 (a := 2) (b := nn) (by omega) (by omega)).mpr z)); omega))).symm), N0, rfl⟩
      · obtain ⟨fs, hr, hrun, hended, hW, hsame⟩ := X0.leave (v := some (.int (-1))) (fun hq => by rw [Bd.returns] at hq; cases hq)
        refine ⟨_, _, pre107 _ ?_, hrun, hended, _, _, rfl, ?_, ⟨_, rfl⟩, hW, hsame.mono (by decide) (by decide)⟩
        · show SP pg ev below (s₁.setTop (mkF mi 16 #[.val (.ref v), .val (.int (Int32.ofNat nn))] [(.int 1), (.int (Int32.ofNat nn))])) _
          refine XS.icmpYes X0.here hx rfl (pc0 := 16) (pc' := 29) rfl (hb hby dj49_16) rfl (flt hc106).2.2.2 (by decide) (by decide) ?_
          refine XS.iloadN X0.here hx rfl (hb hby dj49_29) rfl ?_
          refine XS.iconst X0.here hx rfl (hb hby dj49_30) ?_
          refine XS.icmpYes X0.here hx rfl (pc0 := 31) (pc' := 44) rfl (hb hby dj49_31) rfl (flt (fun q => absurd ((own_lt8 (a := 2) (b := nn) (by omega) (by omega)).mp q) (by have := (show ¬ (1 < nn) from fun z => hc106 ((own_lt8 (a := 1) (b := nn) (by omega) (by omega)).mpr z)); omega))).2.2.2 (by decide) (by decide) ?_
          refine XS.iloadN X0.here hx rfl (hb hby dj49_44) rfl ?_
          refine XS.iconst X0.here hx rfl (hb hby dj49_45) ?_
          refine XS.icmpYes X0.here hx rfl (pc0 := 46) (pc' := 59) rfl (hb hby dj49_46) rfl (flt (fun q => absurd ((own_lt8 (a := 3) (b := nn) (by omega) (by omega)).mp q) (by have := (show ¬ (1 < nn) from fun z => hc106 ((own_lt8 (a := 1) (b := nn) (by omega) (by omega)).mpr z)); omega))).2.2.2 (by decide) (by decide) ?_
          refine XS.iconst X0.here hx rfl (hb hby dj49_59) ?_
          show SP pg ev below (s₁.setTop (mkF mi 60 #[.val (.ref v), .val (.int (Int32.ofNat nn))] [(.int (-1))])) _
          exact retI X0 hx Bd.returns (hb hby dj49_60) hr
        · show Q_fhX Z v kv nn c0 c1 c2 c3 hE n0 _ s₁.heap _
          rw [eE]
          exact ⟨(congrArg (fun z => some (Value.int z)) (own_ix_out (([c0, c1, c2, c3] : List Int32).take nn) 0 (fun j hj => (show ∀ j, j < 1 → ¬ ((([c0, c1, c2, c3] : List Int32).take nn)).getD j 0 = (35 : Int32) from (own_ltS own_lt0 (fun q => hc104 (((own_getD_take (cs := ([c0, c1, c2, c3] : List Int32)) (m := nn) (i := 0) (by have := ((own_lt8 (a := 0) (b := nn) (by omega) (by omega)).mp hc101); omega))).symm.trans q)))) j (by rw [(show (([c0, c1, c2, c3] : List Int32).take nn).length = nn from by rw [List.length_take]; show min nn 4 = nn; omega)] at hj; have := (show ¬ (1 < nn) from fun z => hc106 ((own_lt8 (a := 1) (b := nn) (by omega) (by omega)).mpr z)); omega))).symm), N0, rfl⟩
  · obtain ⟨fs, hr, hrun, hended, hW, hsame⟩ := X0.leave (v := some (.int (-1))) (fun hq => by rw [Bd.returns] at hq; cases hq)
    refine ⟨_, _, pre102 _ ?_, hrun, hended, _, _, rfl, ?_, ⟨_, rfl⟩, hW, hsame.mono (by decide) (by decide)⟩
    · show SP pg ev below (s₁.setTop (mkF mi 1 #[.val (.ref v), .val (.int (Int32.ofNat nn))] [(.int (Int32.ofNat nn))])) _
      refine XS.ifYes X0.here hx rfl (pc0 := 1) (pc' := 14) rfl (hb hby dj49_1) rfl ((if0 _ _).trans (flt hc101).2.2.2) (by decide) (by decide) ?_
      refine XS.iloadN X0.here hx rfl (hb hby dj49_14) rfl ?_
      refine XS.iconst X0.here hx rfl (hb hby dj49_15) ?_
      refine XS.icmpYes X0.here hx rfl (pc0 := 16) (pc' := 29) rfl (hb hby dj49_16) rfl (flt (fun q => absurd ((own_lt8 (a := 1) (b := nn) (by omega) (by omega)).mp q) (by have := (show ¬ (0 < nn) from fun z => hc101 ((own_lt8 (a := 0) (b := nn) (by omega) (by omega)).mpr z)); omega))).2.2.2 (by decide) (by decide) ?_
      refine XS.iloadN X0.here hx rfl (hb hby dj49_29) rfl ?_
      refine XS.iconst X0.here hx rfl (hb hby dj49_30) ?_
      refine XS.icmpYes X0.here hx rfl (pc0 := 31) (pc' := 44) rfl (hb hby dj49_31) rfl (flt (fun q => absurd ((own_lt8 (a := 2) (b := nn) (by omega) (by omega)).mp q) (by have := (show ¬ (0 < nn) from fun z => hc101 ((own_lt8 (a := 0) (b := nn) (by omega) (by omega)).mpr z)); omega))).2.2.2 (by decide) (by decide) ?_
      refine XS.iloadN X0.here hx rfl (hb hby dj49_44) rfl ?_
      refine XS.iconst X0.here hx rfl (hb hby dj49_45) ?_
      refine XS.icmpYes X0.here hx rfl (pc0 := 46) (pc' := 59) rfl (hb hby dj49_46) rfl (flt (fun q => absurd ((own_lt8 (a := 3) (b := nn) (by omega) (by omega)).mp q) (by have := (show ¬ (0 < nn) from fun z => hc101 ((own_lt8 (a := 0) (b := nn) (by omega) (by omega)).mpr z)); omega))).2.2.2 (by decide) (by decide) ?_
      refine XS.iconst X0.here hx rfl (hb hby dj49_59) ?_
      show SP pg ev below (s₁.setTop (mkF mi 60 #[.val (.ref v), .val (.int (Int32.ofNat nn))] [(.int (-1))])) _
      exact retI X0 hx Bd.returns (hb hby dj49_60) hr
    · show Q_fhX Z v kv nn c0 c1 c2 c3 hE n0 _ s₁.heap _
      rw [eE]
      exact ⟨(congrArg (fun z => some (Value.int z)) (own_ix_out (([c0, c1, c2, c3] : List Int32).take nn) 0 (fun j hj => (show ∀ j, j < 0 → ¬ ((([c0, c1, c2, c3] : List Int32).take nn)).getD j 0 = (35 : Int32) from own_lt0) j (by rw [(show (([c0, c1, c2, c3] : List Int32).take nn).length = nn from by rw [List.length_take]; show min nn 4 = nn; omega)] at hj; have := (show ¬ (0 < nn) from fun z => hc101 ((own_lt8 (a := 0) (b := nn) (by omega) (by omega)).mpr z)); omega))).symm), N0, rfl⟩
theorem dj50_0 : decode jc50 0 = .ok (.iload_n 3, 1) := by decide +kernel
theorem dj50_1 : decode jc50 1 = .ok (.iload_n 2, 1) := by decide +kernel
theorem dj50_2 : decode jc50 2 = .ok (.isub, 1) := by decide +kernel
theorem dj50_3 : decode jc50 3 = .ok (.istore 4, 2) := by decide +kernel
theorem dj50_5 : decode jc50 5 = .ok (.aload_n 0, 1) := by decide +kernel
theorem dj50_6 : decode jc50 6 = .ok (.invokevirtual 38, 3) := by decide +kernel
theorem dj50_9 : decode jc50 9 = .ok (.iload 4, 2) := by decide +kernel
theorem dj50_11 : decode jc50 11 = .ok (.if_icmp .eq 5, 3) := by decide +kernel
theorem dj50_16 : decode jc50 16 = .ok (.iload 4, 2) := by decide +kernel
theorem dj50_18 : decode jc50 18 = .ok (.ifCond .le 16, 3) := by decide +kernel
theorem dj50_21 : decode jc50 21 = .ok (.aload_n 0, 1) := by decide +kernel
theorem dj50_22 : decode jc50 22 = .ok (.iconst 0, 1) := by decide +kernel
theorem dj50_23 : decode jc50 23 = .ok (.invokevirtual 42, 3) := by decide +kernel
theorem dj50_26 : decode jc50 26 = .ok (.aload_n 1, 1) := by decide +kernel
theorem dj50_27 : decode jc50 27 = .ok (.iload_n 2, 1) := by decide +kernel
theorem dj50_28 : decode jc50 28 = .ok (.caload, 1) := by decide +kernel
theorem dj50_29 : decode jc50 29 = .ok (.if_icmp .eq 5, 3) := by decide +kernel
theorem dj50_34 : decode jc50 34 = .ok (.iload 4, 2) := by decide +kernel
theorem dj50_36 : decode jc50 36 = .ok (.iconst 1, 1) := by decide +kernel
theorem dj50_37 : decode jc50 37 = .ok (.if_icmp .le 18, 3) := by decide +kernel
theorem dj50_40 : decode jc50 40 = .ok (.aload_n 0, 1) := by decide +kernel
theorem dj50_41 : decode jc50 41 = .ok (.iconst 1, 1) := by decide +kernel
theorem dj50_42 : decode jc50 42 = .ok (.invokevirtual 42, 3) := by decide +kernel
theorem dj50_45 : decode jc50 45 = .ok (.aload_n 1, 1) := by decide +kernel
theorem dj50_46 : decode jc50 46 = .ok (.iload_n 2, 1) := by decide +kernel
theorem dj50_47 : decode jc50 47 = .ok (.iconst 1, 1) := by decide +kernel
theorem dj50_48 : decode jc50 48 = .ok (.iadd, 1) := by decide +kernel
theorem dj50_49 : decode jc50 49 = .ok (.caload, 1) := by decide +kernel
theorem dj50_50 : decode jc50 50 = .ok (.if_icmp .eq 5, 3) := by decide +kernel
theorem dj50_55 : decode jc50 55 = .ok (.iload 4, 2) := by decide +kernel
theorem dj50_57 : decode jc50 57 = .ok (.iconst 2, 1) := by decide +kernel
theorem dj50_58 : decode jc50 58 = .ok (.if_icmp .le 18, 3) := by decide +kernel
theorem dj50_61 : decode jc50 61 = .ok (.aload_n 0, 1) := by decide +kernel
theorem dj50_62 : decode jc50 62 = .ok (.iconst 2, 1) := by decide +kernel
theorem dj50_63 : decode jc50 63 = .ok (.invokevirtual 42, 3) := by decide +kernel
theorem dj50_66 : decode jc50 66 = .ok (.aload_n 1, 1) := by decide +kernel
theorem dj50_67 : decode jc50 67 = .ok (.iload_n 2, 1) := by decide +kernel
theorem dj50_68 : decode jc50 68 = .ok (.iconst 2, 1) := by decide +kernel
theorem dj50_69 : decode jc50 69 = .ok (.iadd, 1) := by decide +kernel
theorem dj50_70 : decode jc50 70 = .ok (.caload, 1) := by decide +kernel
theorem dj50_71 : decode jc50 71 = .ok (.if_icmp .eq 5, 3) := by decide +kernel
theorem dj50_76 : decode jc50 76 = .ok (.iload 4, 2) := by decide +kernel
theorem dj50_78 : decode jc50 78 = .ok (.iconst 3, 1) := by decide +kernel
theorem dj50_79 : decode jc50 79 = .ok (.if_icmp .le 18, 3) := by decide +kernel
theorem dj50_82 : decode jc50 82 = .ok (.aload_n 0, 1) := by decide +kernel
theorem dj50_83 : decode jc50 83 = .ok (.iconst 3, 1) := by decide +kernel
theorem dj50_84 : decode jc50 84 = .ok (.invokevirtual 42, 3) := by decide +kernel
theorem dj50_87 : decode jc50 87 = .ok (.aload_n 1, 1) := by decide +kernel
theorem dj50_88 : decode jc50 88 = .ok (.iload_n 2, 1) := by decide +kernel
theorem dj50_89 : decode jc50 89 = .ok (.iconst 3, 1) := by decide +kernel
theorem dj50_90 : decode jc50 90 = .ok (.iadd, 1) := by decide +kernel
theorem dj50_91 : decode jc50 91 = .ok (.caload, 1) := by decide +kernel
theorem dj50_92 : decode jc50 92 = .ok (.if_icmp .eq 5, 3) := by decide +kernel
theorem dj50_97 : decode jc50 97 = .ok (.iconst 1, 1) := by decide +kernel
theorem dj50_98 : decode jc50 98 = .ok (.ireturn, 1) := by decide +kernel
theorem pd_28 : parseMethodDescriptor "(I)C" = some ⟨[.int], some .char⟩ := by decide +kernel
theorem ef_sam (mi : MethodId) (x : Addr) (v : Addr) (nn : Nat) (ff : Nat) : entryFrame mi #[(.ref x), (.ref v), (.int (Int32.ofNat ff)), (.int (Int32.ofNat nn))] 5 = mkF mi 0 #[.val (.ref x), .val (.ref v), .val (.int (Int32.ofNat ff)), .val (.int (Int32.ofNat nn)), .unset] [] := rfl
def Q_sam (Z : State) (x t : Addr) (ds : List Int32) (v : Addr) (kv : ClassId) (nn : Nat) (c0 c1 c2 c3 : Int32) (ff : Nat) (zc : Int32) (fm : Value) (hE : Heap) (n0 : Nat) (vv : Option Value) (hh : Heap) (LL : List Loc) : Prop := (vv = some (.int 1)) ∧ (Fr n0 LL) ∧ (hh = hE)
theorem rm_sam (hw : HW a0 Z) (ws : List Cond) (x t : Addr) (ds : List Int32) (v : Addr) (kv : ClassId) (nn : Nat) (c0 c1 c2 c3 : Int32) (ff : Nat) (zc : Int32) (fm : Value) (hE : Heap) (n0 : Nat) (O : Old Z n0 hE) (P0_ : WStr Z hE x t ds) (P1_ : Arv Z hE v kv .char (4 : Int32) [(.int c0), (.int c1), (.int c2), (.int c3)] (.int 0)) (D0_ : Sta Z Z.heap c0_ c8_ "Z" (.int zc)) (D1_ : Sta Z Z.heap c3_ c7_ c4_ fm) (D2_ : Sta Z Z.heap c1_ c6_ "Z" (.int 1)) (D3_ : Sta Z Z.heap c1_ c9_ "I" (.int 0)) (D4_ : Sta Z Z.heap c1_ c10_ "I" (.int 8)) (hfn : ff ≤ nn) (hn4 : nn ≤ 4) (hds : ds = (([c0, c1, c2, c3] : List Int32).take nn).drop ff) (hzc : ¬ (zc = (0 : Int32))) (hfm : fm.isRef = true) :
    MF la Z hE mn49 jc50 5 (some .boolean) ws (rr 5 0 0 66) #[(.ref x), (.ref v), (.int (Int32.ofNat ff)), (.int (Int32.ofNat nn))] (Q_sam Z x t ds v kv nn c0 c1 c2 c3 ff zc fm hE n0) := by
  refine MetFree.of_bodySF (plainFor_of_name pn_com_example_detangle_detangle_TestListCaseNamePinLaw) hisR ?_
  intro pg ev sb mi gs below me cd s₁ Bd hml0 hPt hKt
  obtain ⟨rfl, hZ, hh⟩ := hPt
  have hx := Bd.exec
  have hby := Bd.bytes
  have hml : cd.maxLocals = 5 := hml0
  have hown : sb.vm.findClass c2_ = some mi.cls := findClass_of_methodNamed Bd.named
  have X0 : Stand pg la ev (rr 5 0 0 66) sb mi #[(.ref x), (.ref v), (.int (Int32.ofNat ff)), (.int (Int32.ofNat nn))] below me cd s₁ [] 0 0 := Stand.of_body Bd
  have eE : s₁.heap = hE := by rw [← hh, Bd.state]; rfl
  have N0 := Fr.nil n0
  have pre0 : ∀ tt, SP pg ev below (s₁.setTop (mkF mi 0 #[.val (.ref x), .val (.ref v), .val (.int (Int32.ofNat ff)), .val (.int (Int32.ofNat nn)), .unset] [])) tt → SP pg ev below (s₁.setTop (entryFrame mi #[(.ref x), (.ref v), (.int (Int32.ofNat ff)), (.int (Int32.ofNat nn))] 5)) tt := fun tt kk => castTop (ef_sam mi x v nn ff) kk
  have pre101 : ∀ tt, SP pg ev below (s₁.setTop (mkF mi 3 #[.val (.ref x), .val (.ref v), .val (.int (Int32.ofNat ff)), .val (.int (Int32.ofNat nn)), .unset] [(.int ((Int32.ofNat nn) - (Int32.ofNat ff)))])) tt → SP pg ev below (s₁.setTop (entryFrame mi #[(.ref x), (.ref v), (.int (Int32.ofNat ff)), (.int (Int32.ofNat nn))] 5)) tt := fun tt kk => pre0 _ (by
    show SP pg ev below (s₁.setTop (mkF mi 0 #[.val (.ref x), .val (.ref v), .val (.int (Int32.ofNat ff)), .val (.int (Int32.ofNat nn)), .unset] [])) _
    refine XS.iloadN X0.here hx rfl (hb hby dj50_0) rfl ?_
    refine XS.iloadN X0.here hx rfl (hb hby dj50_1) rfl ?_
    refine XS.isub X0.here hx rfl (hb hby dj50_2) rfl ?_
    exact kk)
  have pre102 : ∀ tt, SP pg ev below (s₁.setTop (mkF mi 3 #[.val (.ref x), .val (.ref v), .val (.int (Int32.ofNat ff)), .val (.int (Int32.ofNat nn)), .unset] [(.int (Int32.ofNat (nn - ff)))])) tt → SP pg ev below (s₁.setTop (entryFrame mi #[(.ref x), (.ref v), (.int (Int32.ofNat ff)), (.int (Int32.ofNat nn))] 5)) tt := fun tt kk => pre101 tt (by rw [show ((Int32.ofNat nn) - (Int32.ofNat ff)) = (Int32.ofNat (nn - ff)) from own_sub32 hfn]; exact kk)
  obtain ⟨cq103, kq103, q103a, q103b, q103c⟩ := isOf hZ eE (P0_).1
  obtain ⟨v103, _, ⟨T103, L103, k103, n103⟩, -, X103, ⟨Lc103, hQ103, l103, y103, z103⟩, st103⟩ := X0.virtualBack hx (y := mn3) (z := mn3) hown (mvT hZ (wd80 hw)) (mvT hZ (wd51 hw)) (notFace_of_selects (args := #[]) (mvT hZ (wd53 hw))) (mvT hZ (wd53 hw)) (mvT hZ (wd52 hw)) (by decide) (backOf (W := 0) (rm_wlen la Z a0 hw [] x t ds zc hE n0 O P0_ D0_ (hzc : ¬ (zc = (0 : Int32)))) hZ (wd54 hw) (wd11 hw) (by decide) (by decide)) q103a q103c (g := (mkF mi 6 #[.val (.ref x), .val (.ref v), .val (.int (Int32.ofNat ff)), .val (.int (Int32.ofNat nn)), .val (.int (Int32.ofNat (nn - ff)))] [(.ref x)])) rfl (by rw [hml]; rfl) (Steps.refl _) (argsL := []) (rest := []) (lenOf pd_18 rfl) rfl (Nat.le_of_ble_eq_true rfl) (hb hby dj50_6) (fun _ _ => ⟨rfl, eE, (by decide : 0 + 0 ≤ _), (by decide : 0 + 0 ≤ _)⟩)
  dsimp only [Pt.U, Pt.locs, Pt.cells, Pt.slots] at X103 l103 y103 z103 st103 hQ103
  subst l103 y103 z103
  obtain ⟨rfl, Nq103, ek103⟩ := hQ103
  have N103 := Fr.app N0 Nq103
  have pre105 : ∀ tt, SP pg ev below (T103.setTop (mkF mi 18 #[.val (.ref x), .val (.ref v), .val (.int (Int32.ofNat ff)), .val (.int (Int32.ofNat nn)), .val (.int (Int32.ofNat (nn - ff)))] [(.int (Int32.ofNat (nn - ff)))])) tt → SP pg ev below (s₁.setTop (entryFrame mi #[(.ref x), (.ref v), (.int (Int32.ofNat ff)), (.int (Int32.ofNat nn))] 5)) tt := fun tt kk => pre102 _ (by
    show SP pg ev below (s₁.setTop (mkF mi 3 #[.val (.ref x), .val (.ref v), .val (.int (Int32.ofNat ff)), .val (.int (Int32.ofNat nn)), .unset] [(.int (Int32.ofNat (nn - ff)))])) _
    refine XS.istore X0.here hx rfl (hb hby dj50_3) rfl (l' := #[.val (.ref x), .val (.ref v), .val (.int (Int32.ofNat ff)), .val (.int (Int32.ofNat nn)), .val (.int (Int32.ofNat (nn - ff)))]) rfl ?_
    refine XS.aloadN X0.here hx rfl (hb hby dj50_5) rfl rfl ?_
    refine st103.trans ?_
    refine XS.iload X103.here hx rfl (hb hby dj50_9) rfl ?_
    refine XS.icmpYes X103.here hx rfl (pc0 := 11) (pc' := 16) rfl (hb hby dj50_11) rfl (teq (congrArg Int32.ofNat (by rw [hds, own_dtl hn4]))).1 (by decide) (by decide) ?_
    refine XS.iload X103.here hx rfl (hb hby dj50_16) rfl ?_
    exact kk)
  by_cases hc104 : (0 : Int32) < (Int32.ofNat (nn - ff))
  · obtain ⟨cq106, kq106, q106a, q106b, q106c⟩ := isOf hZ ek103 (P0_).1
    obtain ⟨v106, _, ⟨T106, L106, k106, n106⟩, -, X106, ⟨Lc106, hQ106, l106, y106, z106⟩, st106⟩ := X103.virtualBack hx (y := mn45) (z := mn45) hown (mvT hZ (wd134 hw)) (mvT hZ (wd135 hw)) (notFace_of_selects (args := #[]) (mvT hZ (wd137 hw))) (mvT hZ (wd137 hw)) (mvT hZ (wd136 hw)) (by decide) (backOf (W := 0) (rm_wch la Z a0 hw [] x t ds 0 zc fm hE n0 O P0_ D0_ D1_ D2_ D3_ D4_ (by have := ((own_lt8 (a := 0) (b := nn - ff) (by omega) (by omega)).mp hc104); rw [hds, own_dtl hn4]; omega : 0 < ds.length) (hzc : ¬ (zc = (0 : Int32))) (hfm : fm.isRef = true)) hZ (wd138 hw) (wd11 hw) (by decide) (by decide)) q106a q106c (g := (mkF mi 23 #[.val (.ref x), .val (.ref v), .val (.int (Int32.ofNat ff)), .val (.int (Int32.ofNat nn)), .val (.int (Int32.ofNat (nn - ff)))] [(.int 0), (.ref x)])) rfl (by rw [hml]; rfl) (Steps.refl _) (argsL := [(.int 0)]) (rest := []) (lenOf pd_28 rfl) rfl (Nat.le_of_ble_eq_true rfl) (hb hby dj50_23) (fun _ _ => ⟨rfl, ek103, (by decide : 0 + 0 ≤ _), (by decide : 0 + 0 ≤ _)⟩)
    dsimp only [Pt.U, Pt.locs, Pt.cells, Pt.slots] at X106 l106 y106 z106 st106 hQ106
    subst l106 y106 z106
    obtain ⟨rfl, Nq106, ek106⟩ := hQ106
    have N106 := Fr.app N103 Nq106
    obtain ⟨cl107, Ar107, -, Sz107, Nn107, Hh107, -⟩ := id P1_
    have hin107 : ¬ ((Int32.ofNat ff) < 0 ∨ cl107.slots.size ≤ ((Int32.ofNat ff)).toNatClampNeg) := inb_of Sz107 (own_w0 (m := 4) (by have := ((own_lt8 (a := 0) (b := nn - ff) (by omega) (by omega)).mp hc104); omega) (by omega))
    have hat107 : cl107.slots[((Int32.ofNat ff)).toNatClampNeg]? = some (.int (([c0, c1, c2, c3] : List Int32).getD ff 0)) := Hh107.at hin107 (by rw [own_wn (by omega)]; exact own_vget (by have := ((own_lt8 (a := 0) (b := nn - ff) (by omega) (by omega)).mp hc104); omega))
    have pre109 : ∀ tt, SP pg ev below (T106.setTop (mkF mi 37 #[.val (.ref x), .val (.ref v), .val (.int (Int32.ofNat ff)), .val (.int (Int32.ofNat nn)), .val (.int (Int32.ofNat (nn - ff)))] [(.int 1), (.int (Int32.ofNat (nn - ff)))])) tt → SP pg ev below (s₁.setTop (entryFrame mi #[(.ref x), (.ref v), (.int (Int32.ofNat ff)), (.int (Int32.ofNat nn))] 5)) tt := fun tt kk => pre105 _ (by
      show SP pg ev below (T103.setTop (mkF mi 18 #[.val (.ref x), .val (.ref v), .val (.int (Int32.ofNat ff)), .val (.int (Int32.ofNat nn)), .val (.int (Int32.ofNat (nn - ff)))] [(.int (Int32.ofNat (nn - ff)))])) _
      refine XS.ifNo X103.here hx rfl (hb hby dj50_18) rfl ((if0 _ _).trans (tlt hc104).2.2.2) ?_
      refine XS.aloadN X103.here hx rfl (hb hby dj50_21) rfl rfl ?_
      refine XS.iconst X103.here hx rfl (hb hby dj50_22) ?_
      refine st106.trans ?_
      refine XS.aloadN X106.here hx rfl (hb hby dj50_26) rfl rfl ?_
      refine XS.iloadN X106.here hx rfl (hb hby dj50_27) rfl ?_
      refine X106.caload hx (j := (Int32.ofNat ff)) (v := (.int (([c0, c1, c2, c3] : List Int32).getD ff 0))) (by rw [ek106]; exact Ar107.1) (State.isArrayOf_alike hZ.alike Ar107.2.1) Ar107.2.2 hin107 hat107 (g := (mkF mi 28 #[.val (.ref x), .val (.ref v), .val (.int (Int32.ofNat ff)), .val (.int (Int32.ofNat nn)), .val (.int (Int32.ofNat (nn - ff)))] [(.int (Int32.ofNat ff)), (.ref v), (.int (ds.getD 0 0))])) rfl rfl (hb hby dj50_28) _ ?_
      refine XS.icmpYes X106.here hx rfl (pc0 := 29) (pc' := 34) rfl (hb hby dj50_29) rfl (teq (by have := ((own_lt8 (a := 0) (b := nn - ff) (by omega) (by omega)).mp hc104); rw [hds]; exact own_dtg (by omega))).1 (by decide) (by decide) ?_
      refine XS.iload X106.here hx rfl (hb hby dj50_34) rfl ?_
      refine XS.iconst X106.here hx rfl (hb hby dj50_36) ?_
      exact kk)
    by_cases hc108 : (1 : Int32) < (Int32.ofNat (nn - ff))
    · obtain ⟨cq110, kq110, q110a, q110b, q110c⟩ := isOf hZ ek106 (P0_).1
      obtain ⟨v110, _, ⟨T110, L110, k110, n110⟩, -, X110, ⟨Lc110, hQ110, l110, y110, z110⟩, st110⟩ := X106.virtualBack hx (y := mn45) (z := mn45) hown (mvT hZ (wd134 hw)) (mvT hZ (wd135 hw)) (notFace_of_selects (args := #[]) (mvT hZ (wd137 hw))) (mvT hZ (wd137 hw)) (mvT hZ (wd136 hw)) (by decide) (backOf (W := 0) (rm_wch la Z a0 hw [] x t ds 1 zc fm hE n0 O P0_ D0_ D1_ D2_ D3_ D4_ (by have := ((own_lt8 (a := 1) (b := nn - ff) (by omega) (by omega)).mp hc108); rw [hds, own_dtl hn4]; omega : 1 < ds.length) (hzc : ¬ (zc = (0 : Int32))) (hfm : fm.isRef = true)) hZ (wd138 hw) (wd11 hw) (by decide) (by decide)) q110a q110c (g := (mkF mi 42 #[.val (.ref x), .val (.ref v), .val (.int (Int32.ofNat ff)), .val (.int (Int32.ofNat nn)), .val (.int (Int32.ofNat (nn - ff)))] [(.int 1), (.ref x)])) rfl (by rw [hml]; rfl) (Steps.refl _) (argsL := [(.int 1)]) (rest := []) (lenOf pd_28 rfl) rfl (Nat.le_of_ble_eq_true rfl) (hb hby dj50_42) (fun _ _ => ⟨rfl, ek106, (by decide : 0 + 0 ≤ _), (by decide : 0 + 0 ≤ _)⟩)
      dsimp only [Pt.U, Pt.locs, Pt.cells, Pt.slots] at X110 l110 y110 z110 st110 hQ110
      subst l110 y110 z110
      obtain ⟨rfl, Nq110, ek110⟩ := hQ110
      have N110 := Fr.app N106 Nq110
      have pre111 : ∀ tt, SP pg ev below (T110.setTop (mkF mi 49 #[.val (.ref x), .val (.ref v), .val (.int (Int32.ofNat ff)), .val (.int (Int32.ofNat nn)), .val (.int (Int32.ofNat (nn - ff)))] [(.int ((Int32.ofNat ff) + (1 : Int32))), (.ref v), (.int (ds.getD 1 0))])) tt → SP pg ev below (s₁.setTop (entryFrame mi #[(.ref x), (.ref v), (.int (Int32.ofNat ff)), (.int (Int32.ofNat nn))] 5)) tt := fun tt kk => pre109 _ (by
        show SP pg ev below (T106.setTop (mkF mi 37 #[.val (.ref x), .val (.ref v), .val (.int (Int32.ofNat ff)), .val (.int (Int32.ofNat nn)), .val (.int (Int32.ofNat (nn - ff)))] [(.int 1), (.int (Int32.ofNat (nn - ff)))])) _
        refine XS.icmpNo X106.here hx rfl (hb hby dj50_37) rfl (tlt hc108).2.2.2 ?_
        refine XS.aloadN X106.here hx rfl (hb hby dj50_40) rfl rfl ?_
        refine XS.iconst X106.here hx rfl (hb hby dj50_41) ?_
        refine st110.trans ?_
        refine XS.aloadN X110.here hx rfl (hb hby dj50_45) rfl rfl ?_
        refine XS.iloadN X110.here hx rfl (hb hby dj50_46) rfl ?_
        refine XS.iconst X110.here hx rfl (hb hby dj50_47) ?_
        refine XS.iadd X110.here hx rfl (hb hby dj50_48) rfl ?_
        exact kk)
      have pre112 : ∀ tt, SP pg ev below (T110.setTop (mkF mi 49 #[.val (.ref x), .val (.ref v), .val (.int (Int32.ofNat ff)), .val (.int (Int32.ofNat nn)), .val (.int (Int32.ofNat (nn - ff)))] [(.int (Int32.ofNat (ff + 1))), (.ref v), (.int (ds.getD 1 0))])) tt → SP pg ev below (s₁.setTop (entryFrame mi #[(.ref x), (.ref v), (.int (Int32.ofNat ff)), (.int (Int32.ofNat nn))] 5)) tt := fun tt kk => pre111 tt (by rw [show ((Int32.ofNat ff) + (1 : Int32)) = (Int32.ofNat (ff + 1)) from own_add32 ff 1]; exact kk)
      obtain ⟨cl113, Ar113, -, Sz113, Nn113, Hh113, -⟩ := id P1_
      have hin113 : ¬ ((Int32.ofNat (ff + 1)) < 0 ∨ cl113.slots.size ≤ ((Int32.ofNat (ff + 1))).toNatClampNeg) := inb_of Sz113 (own_w0 (m := 4) (by have := ((own_lt8 (a := 1) (b := nn - ff) (by omega) (by omega)).mp hc108); omega) (by omega))
      have hat113 : cl113.slots[((Int32.ofNat (ff + 1))).toNatClampNeg]? = some (.int (([c0, c1, c2, c3] : List Int32).getD (ff + 1) 0)) := Hh113.at hin113 (by rw [own_wn (by omega)]; exact own_vget (by have := ((own_lt8 (a := 1) (b := nn - ff) (by omega) (by omega)).mp hc108); omega))
      have pre115 : ∀ tt, SP pg ev below (T110.setTop (mkF mi 58 #[.val (.ref x), .val (.ref v), .val (.int (Int32.ofNat ff)), .val (.int (Int32.ofNat nn)), .val (.int (Int32.ofNat (nn - ff)))] [(.int 2), (.int (Int32.ofNat (nn - ff)))])) tt → SP pg ev below (s₁.setTop (entryFrame mi #[(.ref x), (.ref v), (.int (Int32.ofNat ff)), (.int (Int32.ofNat nn))] 5)) tt := fun tt kk => pre112 _ (by
        show SP pg ev below (T110.setTop (mkF mi 49 #[.val (.ref x), .val (.ref v), .val (.int (Int32.ofNat ff)), .val (.int (Int32.ofNat nn)), .val (.int (Int32.ofNat (nn - ff)))] [(.int (Int32.ofNat (ff + 1))), (.ref v), (.int (ds.getD 1 0))])) _
        refine X110.caload hx (j := (Int32.ofNat (ff + 1))) (v := (.int (([c0, c1, c2, c3] : List Int32).getD (ff + 1) 0))) (by rw [ek110]; exact Ar113.1) (State.isArrayOf_alike hZ.alike Ar113.2.1) Ar113.2.2 hin113 hat113 (g := (mkF mi 49 #[.val (.ref x), .val (.ref v), .val (.int (Int32.ofNat ff)), .val (.int (Int32.ofNat nn)), .val (.int (Int32.ofNat (nn - ff)))] [(.int (Int32.ofNat (ff + 1))), (.ref v), (.int (ds.getD 1 0))])) rfl rfl (hb hby dj50_49) _ ?_
        refine XS.icmpYes X110.here hx rfl (pc0 := 50) (pc' := 55) rfl (hb hby dj50_50) rfl (teq (by have := ((own_lt8 (a := 1) (b := nn - ff) (by omega) (by omega)).mp hc108); rw [hds]; exact own_dtg (by omega))).1 (by decide) (by decide) ?_
        refine XS.iload X110.here hx rfl (hb hby dj50_55) rfl ?_
        refine XS.iconst X110.here hx rfl (hb hby dj50_57) ?_
        exact kk)
      by_cases hc114 : (2 : Int32) < (Int32.ofNat (nn - ff))
      · obtain ⟨cq116, kq116, q116a, q116b, q116c⟩ := isOf hZ ek110 (P0_).1
        obtain ⟨v116, _, ⟨T116, L116, k116, n116⟩, -, X116, ⟨Lc116, hQ116, l116, y116, z116⟩, st116⟩ := X110.virtualBack hx (y := mn45) (z := mn45) hown (mvT hZ (wd134 hw)) (mvT hZ (wd135 hw)) (notFace_of_selects (args := #[]) (mvT hZ (wd137 hw))) (mvT hZ (wd137 hw)) (mvT hZ (wd136 hw)) (by decide) (backOf (W := 0) (rm_wch la Z a0 hw [] x t ds 2 zc fm hE n0 O P0_ D0_ D1_ D2_ D3_ D4_ (by have := ((own_lt8 (a := 2) (b := nn - ff) (by omega) (by omega)).mp hc114); rw [hds, own_dtl hn4]; omega : 2 < ds.length) (hzc : ¬ (zc = (0 : Int32))) (hfm : fm.isRef = true)) hZ (wd138 hw) (wd11 hw) (by decide) (by decide)) q116a q116c (g := (mkF mi 63 #[.val (.ref x), .val (.ref v), .val (.int (Int32.ofNat ff)), .val (.int (Int32.ofNat nn)), .val (.int (Int32.ofNat (nn - ff)))] [(.int 2), (.ref x)])) rfl (by rw [hml]; rfl) (Steps.refl _) (argsL := [(.int 2)]) (rest := []) (lenOf pd_28 rfl) rfl (Nat.le_of_ble_eq_true rfl) (hb hby dj50_63) (fun _ _ => ⟨rfl, ek110, (by decide : 0 + 0 ≤ _), (by decide : 0 + 0 ≤ _)⟩)
        dsimp only [Pt.U, Pt.locs, Pt.cells, Pt.slots] at X116 l116 y116 z116 st116 hQ116
        subst l116 y116 z116
        obtain ⟨rfl, Nq116, ek116⟩ := hQ116
        have N116 := Fr.app N110 Nq116
        have pre117 : ∀ tt, SP pg ev below (T116.setTop (mkF mi 70 #[.val (.ref x), .val (.ref v), .val (.int (Int32.ofNat ff)), .val (.int (Int32.ofNat nn)), .val (.int (Int32.ofNat (nn - ff)))] [(.int ((Int32.ofNat ff) + (2 : Int32))), (.ref v), (.int (ds.getD 2 0))])) tt → SP pg ev below (s₁.setTop (entryFrame mi #[(.ref x), (.ref v), (.int (Int32.ofNat ff)), (.int (Int32.ofNat nn))] 5)) tt := fun tt kk => pre115 _ (by
          show SP pg ev below (T110.setTop (mkF mi 58 #[.val (.ref x), .val (.ref v), .val (.int (Int32.ofNat ff)), .val (.int (Int32.ofNat nn)), .val (.int (Int32.ofNat (nn - ff)))] [(.int 2), (.int (Int32.ofNat (nn - ff)))])) _
          refine XS.icmpNo X110.here hx rfl (hb hby dj50_58) rfl (tlt hc114).2.2.2 ?_
          refine XS.aloadN X110.here hx rfl (hb hby dj50_61) rfl rfl ?_
          refine XS.iconst X110.here hx rfl (hb hby dj50_62) ?_
          refine st116.trans ?_
          refine XS.aloadN X116.here hx rfl (hb hby dj50_66) rfl rfl ?_
          refine XS.iloadN X116.here hx rfl (hb hby dj50_67) rfl ?_
          refine XS.iconst X116.here hx rfl (hb hby dj50_68) ?_
          refine XS.iadd X116.here hx rfl (hb hby dj50_69) rfl ?_
          exact kk)
        have pre118 : ∀ tt, SP pg ev below (T116.setTop (mkF mi 70 #[.val (.ref x), .val (.ref v), .val (.int (Int32.ofNat ff)), .val (.int (Int32.ofNat nn)), .val (.int (Int32.ofNat (nn - ff)))] [(.int (Int32.ofNat (ff + 2))), (.ref v), (.int (ds.getD 2 0))])) tt → SP pg ev below (s₁.setTop (entryFrame mi #[(.ref x), (.ref v), (.int (Int32.ofNat ff)), (.int (Int32.ofNat nn))] 5)) tt := fun tt kk => pre117 tt (by rw [show ((Int32.ofNat ff) + (2 : Int32)) = (Int32.ofNat (ff + 2)) from own_add32 ff 2]; exact kk)
        obtain ⟨cl119, Ar119, -, Sz119, Nn119, Hh119, -⟩ := id P1_
        have hin119 : ¬ ((Int32.ofNat (ff + 2)) < 0 ∨ cl119.slots.size ≤ ((Int32.ofNat (ff + 2))).toNatClampNeg) := inb_of Sz119 (own_w0 (m := 4) (by have := ((own_lt8 (a := 2) (b := nn - ff) (by omega) (by omega)).mp hc114); omega) (by omega))
        have hat119 : cl119.slots[((Int32.ofNat (ff + 2))).toNatClampNeg]? = some (.int (([c0, c1, c2, c3] : List Int32).getD (ff + 2) 0)) := Hh119.at hin119 (by rw [own_wn (by omega)]; exact own_vget (by have := ((own_lt8 (a := 2) (b := nn - ff) (by omega) (by omega)).mp hc114); omega))
        have pre121 : ∀ tt, SP pg ev below (T116.setTop (mkF mi 79 #[.val (.ref x), .val (.ref v), .val (.int (Int32.ofNat ff)), .val (.int (Int32.ofNat nn)), .val (.int (Int32.ofNat (nn - ff)))] [(.int 3), (.int (Int32.ofNat (nn - ff)))])) tt → SP pg ev below (s₁.setTop (entryFrame mi #[(.ref x), (.ref v), (.int (Int32.ofNat ff)), (.int (Int32.ofNat nn))] 5)) tt := fun tt kk => pre118 _ (by
          show SP pg ev below (T116.setTop (mkF mi 70 #[.val (.ref x), .val (.ref v), .val (.int (Int32.ofNat ff)), .val (.int (Int32.ofNat nn)), .val (.int (Int32.ofNat (nn - ff)))] [(.int (Int32.ofNat (ff + 2))), (.ref v), (.int (ds.getD 2 0))])) _
          refine X116.caload hx (j := (Int32.ofNat (ff + 2))) (v := (.int (([c0, c1, c2, c3] : List Int32).getD (ff + 2) 0))) (by rw [ek116]; exact Ar119.1) (State.isArrayOf_alike hZ.alike Ar119.2.1) Ar119.2.2 hin119 hat119 (g := (mkF mi 70 #[.val (.ref x), .val (.ref v), .val (.int (Int32.ofNat ff)), .val (.int (Int32.ofNat nn)), .val (.int (Int32.ofNat (nn - ff)))] [(.int (Int32.ofNat (ff + 2))), (.ref v), (.int (ds.getD 2 0))])) rfl rfl (hb hby dj50_70) _ ?_
          refine XS.icmpYes X116.here hx rfl (pc0 := 71) (pc' := 76) rfl (hb hby dj50_71) rfl (teq (by have := ((own_lt8 (a := 2) (b := nn - ff) (by omega) (by omega)).mp hc114); rw [hds]; exact own_dtg (by omega))).1 (by decide) (by decide) ?_
          refine XS.iload X116.here hx rfl (hb hby dj50_76) rfl ?_
          refine XS.iconst X116.here hx rfl (hb hby dj50_78) ?_
          exact kk)
        by_cases hc120 : (3 : Int32) < (Int32.ofNat (nn - ff))
        · obtain ⟨cq122, kq122, q122a, q122b, q122c⟩ := isOf hZ ek116 (P0_).1
          obtain ⟨v122, _, ⟨T122, L122, k122, n122⟩, -, X122, ⟨Lc122, hQ122, l122, y122, z122⟩, st122⟩ := X116.virtualBack hx (y := mn45) (z := mn45) hown (mvT hZ (wd134 hw)) (mvT hZ (wd135 hw)) (notFace_of_selects (args := #[]) (mvT hZ (wd137 hw))) (mvT hZ (wd137 hw)) (mvT hZ (wd136 hw)) (by decide) (backOf (W := 0) (rm_wch la Z a0 hw [] x t ds 3 zc fm hE n0 O P0_ D0_ D1_ D2_ D3_ D4_ (by have := ((own_lt8 (a := 3) (b := nn - ff) (by omega) (by omega)).mp hc120); rw [hds, own_dtl hn4]; omega : 3 < ds.length) (hzc : ¬ (zc = (0 : Int32))) (hfm : fm.isRef = true)) hZ (wd138 hw) (wd11 hw) (by decide) (by decide)) q122a q122c (g := (mkF mi 84 #[.val (.ref x), .val (.ref v), .val (.int (Int32.ofNat ff)), .val (.int (Int32.ofNat nn)), .val (.int (Int32.ofNat (nn - ff)))] [(.int 3), (.ref x)])) rfl (by rw [hml]; rfl) (Steps.refl _) (argsL := [(.int 3)]) (rest := []) (lenOf pd_28 rfl) rfl (Nat.le_of_ble_eq_true rfl) (hb hby dj50_84) (fun _ _ => ⟨rfl, ek116, (by decide : 0 + 0 ≤ _), (by decide : 0 + 0 ≤ _)⟩)
          dsimp only [Pt.U, Pt.locs, Pt.cells, Pt.slots] at X122 l122 y122 z122 st122 hQ122
          subst l122 y122 z122
          obtain ⟨rfl, Nq122, ek122⟩ := hQ122
          have N122 := Fr.app N116 Nq122
          have pre123 : ∀ tt, SP pg ev below (T122.setTop (mkF mi 91 #[.val (.ref x), .val (.ref v), .val (.int (Int32.ofNat ff)), .val (.int (Int32.ofNat nn)), .val (.int (Int32.ofNat (nn - ff)))] [(.int ((Int32.ofNat ff) + (3 : Int32))), (.ref v), (.int (ds.getD 3 0))])) tt → SP pg ev below (s₁.setTop (entryFrame mi #[(.ref x), (.ref v), (.int (Int32.ofNat ff)), (.int (Int32.ofNat nn))] 5)) tt := fun tt kk => pre121 _ (by
            show SP pg ev below (T116.setTop (mkF mi 79 #[.val (.ref x), .val (.ref v), .val (.int (Int32.ofNat ff)), .val (.int (Int32.ofNat nn)), .val (.int (Int32.ofNat (nn - ff)))] [(.int 3), (.int (Int32.ofNat (nn - ff)))])) _
            refine XS.icmpNo X116.here hx rfl (hb hby dj50_79) rfl (tlt hc120).2.2.2 ?_
            refine XS.aloadN X116.here hx rfl (hb hby dj50_82) rfl rfl ?_
            refine XS.iconst X116.here hx rfl (hb hby dj50_83) ?_
            refine st122.trans ?_
            refine XS.aloadN X122.here hx rfl (hb hby dj50_87) rfl rfl ?_
            refine XS.iloadN X122.here hx rfl (hb hby dj50_88) rfl ?_
            refine XS.iconst X122.here hx rfl (hb hby dj50_89) ?_
            refine XS.iadd X122.here hx rfl (hb hby dj50_90) rfl ?_
            exact kk)
          have pre124 : ∀ tt, SP pg ev below (T122.setTop (mkF mi 91 #[.val (.ref x), .val (.ref v), .val (.int (Int32.ofNat ff)), .val (.int (Int32.ofNat nn)), .val (.int (Int32.ofNat (nn - ff)))] [(.int (Int32.ofNat (ff + 3))), (.ref v), (.int (ds.getD 3 0))])) tt → SP pg ev below (s₁.setTop (entryFrame mi #[(.ref x), (.ref v), (.int (Int32.ofNat ff)), (.int (Int32.ofNat nn))] 5)) tt := fun tt kk => pre123 tt (by rw [show ((Int32.ofNat ff) + (3 : Int32)) = (Int32.ofNat (ff + 3)) from own_add32 ff 3]; exact kk)
          obtain ⟨cl125, Ar125, -, Sz125, Nn125, Hh125, -⟩ := id P1_
          have hin125 : ¬ ((Int32.ofNat (ff + 3)) < 0 ∨ cl125.slots.size ≤ ((Int32.ofNat (ff + 3))).toNatClampNeg) := inb_of Sz125 (own_w0 (m := 4) (by have := ((own_lt8 (a := 3) (b := nn - ff) (by omega) (by omega)).mp hc120); omega) (by omega))
          have hat125 : cl125.slots[((Int32.ofNat (ff + 3))).toNatClampNeg]? = some (.int (([c0, c1, c2, c3] : List Int32).getD (ff + 3) 0)) := Hh125.at hin125 (by rw [own_wn (by omega)]; exact own_vget (by have := ((own_lt8 (a := 3) (b := nn - ff) (by omega) (by omega)).mp hc120); omega))
          obtain ⟨fs, hr, hrun, hended, hW, hsame⟩ := X122.leave (v := some (.int 1)) (fun hq => by rw [Bd.returns] at hq; cases hq)
          refine ⟨_, _, pre124 _ ?_, hrun, hended, _, _, rfl, ?_, ⟨_, rfl⟩, hW, hsame.mono (by decide) (by decide)⟩
          · show SP pg ev below (T122.setTop (mkF mi 91 #[.val (.ref x), .val (.ref v), .val (.int (Int32.ofNat ff)), .val (.int (Int32.ofNat nn)), .val (.int (Int32.ofNat (nn - ff)))] [(.int (Int32.ofNat (ff + 3))), (.ref v), (.int (ds.getD 3 0))])) _
            refine X122.caload hx (j := (Int32.ofNat (ff + 3))) (v := (.int (([c0, c1, c2, c3] : List Int32).getD (ff + 3) 0))) (by rw [ek122]; exact Ar125.1) (State.isArrayOf_alike hZ.alike Ar125.2.1) Ar125.2.2 hin125 hat125 (g := (mkF mi 91 #[.val (.ref x), .val (.ref v), .val (.int (Int32.ofNat ff)), .val (.int (Int32.ofNat nn)), .val (.int (Int32.ofNat (nn - ff)))] [(.int (Int32.ofNat (ff + 3))), (.ref v), (.int (ds.getD 3 0))])) rfl rfl (hb hby dj50_91) _ ?_
            refine XS.icmpYes X122.here hx rfl (pc0 := 92) (pc' := 97) rfl (hb hby dj50_92) rfl (teq (by have := ((own_lt8 (a := 3) (b := nn - ff) (by omega) (by omega)).mp hc120); rw [hds]; exact own_dtg (by omega))).1 (by decide) (by decide) ?_
            refine XS.iconst X122.here hx rfl (hb hby dj50_97) ?_
            show SP pg ev below (T122.setTop (mkF mi 98 #[.val (.ref x), .val (.ref v), .val (.int (Int32.ofNat ff)), .val (.int (Int32.ofNat nn)), .val (.int (Int32.ofNat (nn - ff)))] [(.int 1)])) _
            exact retN X122 hx (t := .boolean) Bd.returns (by simp) (hb hby dj50_98) hr
          · show Q_sam Z x t ds v kv nn c0 c1 c2 c3 ff zc fm hE n0 _ T122.heap _
            rw [ek122]
            exact ⟨rfl, N122, rfl⟩
        · obtain ⟨fs, hr, hrun, hended, hW, hsame⟩ := X116.leave (v := some (.int 1)) (fun hq => by rw [Bd.returns] at hq; cases hq)
          refine ⟨_, _, pre121 _ ?_, hrun, hended, _, _, rfl, ?_, ⟨_, rfl⟩, hW, hsame.mono (by decide) (by decide)⟩
          · show SP pg ev below (T116.setTop (mkF mi 79 #[.val (.ref x), .val (.ref v), .val (.int (Int32.ofNat ff)), .val (.int (Int32.ofNat nn)), .val (.int (Int32.ofNat (nn - ff)))] [(.int 3), (.int (Int32.ofNat (nn - ff)))])) _
            refine XS.icmpYes X116.here hx rfl (pc0 := 79) (pc' := 97) rfl (hb hby dj50_79) rfl (flt hc120).2.2.2 (by decide) (by decide) ?_
            refine XS.iconst X116.here hx rfl (hb hby dj50_97) ?_
            show SP pg ev below (T116.setTop (mkF mi 98 #[.val (.ref x), .val (.ref v), .val (.int (Int32.ofNat ff)), .val (.int (Int32.ofNat nn)), .val (.int (Int32.ofNat (nn - ff)))] [(.int 1)])) _
            exact retN X116 hx (t := .boolean) Bd.returns (by simp) (hb hby dj50_98) hr
          · show Q_sam Z x t ds v kv nn c0 c1 c2 c3 ff zc fm hE n0 _ T116.heap _
            rw [ek116]
            exact ⟨rfl, N116, rfl⟩
      · obtain ⟨fs, hr, hrun, hended, hW, hsame⟩ := X110.leave (v := some (.int 1)) (fun hq => by rw [Bd.returns] at hq; cases hq)
        refine ⟨_, _, pre115 _ ?_, hrun, hended, _, _, rfl, ?_, ⟨_, rfl⟩, hW, hsame.mono (by decide) (by decide)⟩
        · show SP pg ev below (T110.setTop (mkF mi 58 #[.val (.ref x), .val (.ref v), .val (.int (Int32.ofNat ff)), .val (.int (Int32.ofNat nn)), .val (.int (Int32.ofNat (nn - ff)))] [(.int 2), (.int (Int32.ofNat (nn - ff)))])) _
          refine XS.icmpYes X110.here hx rfl (pc0 := 58) (pc' := 76) rfl (hb hby dj50_58) rfl (flt hc114).2.2.2 (by decide) (by decide) ?_
          refine XS.iload X110.here hx rfl (hb hby dj50_76) rfl ?_
          refine XS.iconst X110.here hx rfl (hb hby dj50_78) ?_
          refine XS.icmpYes X110.here hx rfl (pc0 := 79) (pc' := 97) rfl (hb hby dj50_79) rfl (flt (fun q => absurd ((own_lt8 (a := 3) (b := nn - ff) (by omega) (by omega)).mp q) (by have : ¬ (2 < nn - ff) := fun z => hc114 ((own_lt8 (a := 2) (b := nn - ff) (by omega) (by omega)).mpr z); omega))).2.2.2 (by decide) (by decide) ?_
          refine XS.iconst X110.here hx rfl (hb hby dj50_97) ?_
          show SP pg ev below (T110.setTop (mkF mi 98 #[.val (.ref x), .val (.ref v), .val (.int (Int32.ofNat ff)), .val (.int (Int32.ofNat nn)), .val (.int (Int32.ofNat (nn - ff)))] [(.int 1)])) _
          exact retN X110 hx (t := .boolean) Bd.returns (by simp) (hb hby dj50_98) hr
        · show Q_sam Z x t ds v kv nn c0 c1 c2 c3 ff zc fm hE n0 _ T110.heap _
          rw [ek110]
          exact ⟨rfl, N110, rfl⟩
    · obtain ⟨fs, hr, hrun, hended, hW, hsame⟩ := X106.leave (v := some (.int 1)) (fun hq => by rw [Bd.returns] at hq; cases hq)
      refine ⟨_, _, pre109 _ ?_, hrun, hended, _, _, rfl, ?_, ⟨_, rfl⟩, hW, hsame.mono (by decide) (by decide)⟩
      · show SP pg ev below (T106.setTop (mkF mi 37 #[.val (.ref x), .val (.ref v), .val (.int (Int32.ofNat ff)), .val (.int (Int32.ofNat nn)), .val (.int (Int32.ofNat (nn - ff)))] [(.int 1), (.int (Int32.ofNat (nn - ff)))])) _
        refine XS.icmpYes X106.here hx rfl (pc0 := 37) (pc' := 55) rfl (hb hby dj50_37) rfl (flt hc108).2.2.2 (by decide) (by decide) ?_
        refine XS.iload X106.here hx rfl (hb hby dj50_55) rfl ?_
        refine XS.iconst X106.here hx rfl (hb hby dj50_57) ?_
        refine XS.icmpYes X106.here hx rfl (pc0 := 58) (pc' := 76) rfl (hb hby dj50_58) rfl (flt (fun q => absurd ((own_lt8 (a := 2) (b := nn - ff) (by omega) (by omega)).mp q) (by have : ¬ (1 < nn - ff) := fun z => hc108 ((own_lt8 (a := 1) (b := nn - ff) (by omega) (by omega)).mpr z); omega))).2.2.2 (by decide) (by decide) ?_
        refine XS.iload X106.here hx rfl (hb hby dj50_76) rfl ?_
        refine XS.iconst X106.here hx rfl (hb hby dj50_78) ?_
        refine XS.icmpYes X106.here hx rfl (pc0 := 79) (pc' := 97) rfl (hb hby dj50_79) rfl (flt (fun q => absurd ((own_lt8 (a := 3) (b := nn - ff) (by omega) (by omega)).mp q) (by have : ¬ (1 < nn - ff) := fun z => hc108 ((own_lt8 (a := 1) (b := nn - ff) (by omega) (by omega)).mpr z); omega))).2.2.2 (by decide) (by decide) ?_
        refine XS.iconst X106.here hx rfl (hb hby dj50_97) ?_
        show SP pg ev below (T106.setTop (mkF mi 98 #[.val (.ref x), .val (.ref v), .val (.int (Int32.ofNat ff)), .val (.int (Int32.ofNat nn)), .val (.int (Int32.ofNat (nn - ff)))] [(.int 1)])) _
        exact retN X106 hx (t := .boolean) Bd.returns (by simp) (hb hby dj50_98) hr
      · show Q_sam Z x t ds v kv nn c0 c1 c2 c3 ff zc fm hE n0 _ T106.heap _
        rw [ek106]
        exact ⟨rfl, N106, rfl⟩
  · obtain ⟨fs, hr, hrun, hended, hW, hsame⟩ := X103.leave (v := some (.int 1)) (fun hq => by rw [Bd.returns] at hq; cases hq)
    refine ⟨_, _, pre105 _ ?_, hrun, hended, _, _, rfl, ?_, ⟨_, rfl⟩, hW, hsame.mono (by decide) (by decide)⟩
    · show SP pg ev below (T103.setTop (mkF mi 18 #[.val (.ref x), .val (.ref v), .val (.int (Int32.ofNat ff)), .val (.int (Int32.ofNat nn)), .val (.int (Int32.ofNat (nn - ff)))] [(.int (Int32.ofNat (nn - ff)))])) _
      refine XS.ifYes X103.here hx rfl (pc0 := 18) (pc' := 34) rfl (hb hby dj50_18) rfl ((if0 _ _).trans (flt hc104).2.2.2) (by decide) (by decide) ?_
      refine XS.iload X103.here hx rfl (hb hby dj50_34) rfl ?_
      refine XS.iconst X103.here hx rfl (hb hby dj50_36) ?_
      refine XS.icmpYes X103.here hx rfl (pc0 := 37) (pc' := 55) rfl (hb hby dj50_37) rfl (flt (fun q => absurd ((own_lt8 (a := 1) (b := nn - ff) (by omega) (by omega)).mp q) (by have : ¬ (0 < nn - ff) := fun z => hc104 ((own_lt8 (a := 0) (b := nn - ff) (by omega) (by omega)).mpr z); omega))).2.2.2 (by decide) (by decide) ?_
      refine XS.iload X103.here hx rfl (hb hby dj50_55) rfl ?_
      refine XS.iconst X103.here hx rfl (hb hby dj50_57) ?_
      refine XS.icmpYes X103.here hx rfl (pc0 := 58) (pc' := 76) rfl (hb hby dj50_58) rfl (flt (fun q => absurd ((own_lt8 (a := 2) (b := nn - ff) (by omega) (by omega)).mp q) (by have : ¬ (0 < nn - ff) := fun z => hc104 ((own_lt8 (a := 0) (b := nn - ff) (by omega) (by omega)).mpr z); omega))).2.2.2 (by decide) (by decide) ?_
      refine XS.iload X103.here hx rfl (hb hby dj50_76) rfl ?_
      refine XS.iconst X103.here hx rfl (hb hby dj50_78) ?_
      refine XS.icmpYes X103.here hx rfl (pc0 := 79) (pc' := 97) rfl (hb hby dj50_79) rfl (flt (fun q => absurd ((own_lt8 (a := 3) (b := nn - ff) (by omega) (by omega)).mp q) (by have : ¬ (0 < nn - ff) := fun z => hc104 ((own_lt8 (a := 0) (b := nn - ff) (by omega) (by omega)).mpr z); omega))).2.2.2 (by decide) (by decide) ?_
      refine XS.iconst X103.here hx rfl (hb hby dj50_97) ?_
      show SP pg ev below (T103.setTop (mkF mi 98 #[.val (.ref x), .val (.ref v), .val (.int (Int32.ofNat ff)), .val (.int (Int32.ofNat nn)), .val (.int (Int32.ofNat (nn - ff)))] [(.int 1)])) _
      exact retN X103 hx (t := .boolean) Bd.returns (by simp) (hb hby dj50_98) hr
    · show Q_sam Z x t ds v kv nn c0 c1 c2 c3 ff zc fm hE n0 _ T103.heap _
      rw [ek103]
      exact ⟨rfl, N103, rfl⟩
theorem dj38_0 : decode jc38 0 = .ok (.aload_n 0, 1) := by decide +kernel
theorem dj38_1 : decode jc38 1 = .ok (.bipush 35, 2) := by decide +kernel
theorem dj38_3 : decode jc38 3 = .ok (.invokevirtual 46, 3) := by decide +kernel
theorem dj38_6 : decode jc38 6 = .ok (.istore_n 1, 1) := by decide +kernel
theorem dj38_7 : decode jc38 7 = .ok (.iload_n 1, 1) := by decide +kernel
theorem dj38_8 : decode jc38 8 = .ok (.ifCond .ge 7, 3) := by decide +kernel
theorem dj38_11 : decode jc38 11 = .ok (.aload_n 0, 1) := by decide +kernel
theorem dj38_12 : decode jc38 12 = .ok (.goto 10, 3) := by decide +kernel
theorem dj38_15 : decode jc38 15 = .ok (.aload_n 0, 1) := by decide +kernel
theorem dj38_16 : decode jc38 16 = .ok (.iload_n 1, 1) := by decide +kernel
theorem dj38_17 : decode jc38 17 = .ok (.iconst 1, 1) := by decide +kernel
theorem dj38_18 : decode jc38 18 = .ok (.iadd, 1) := by decide +kernel
theorem dj38_19 : decode jc38 19 = .ok (.invokevirtual 56, 3) := by decide +kernel
theorem dj38_22 : decode jc38 22 = .ok (.areturn, 1) := by decide +kernel
theorem pd_29 : parseMethodDescriptor "(I)Ljava/lang/String;" = some ⟨[.int], some (.object "java/lang/String")⟩ := by decide +kernel
theorem pn_com_example_detangle_detangle_TestList : plainName "com/example/detangle/detangle/TestList" = true := by first | (simp [plainName, overriddenIn]; done) | decide +kernel
theorem ef_csm (mi : MethodId) (x : Addr) : entryFrame mi #[(.ref x)] 2 = mkF mi 0 #[.val (.ref x), .unset] [] := rfl
def Q_csm (Z : State) (x t : Addr) (cs : List Int32) (zc : Int32) (fm : Value) (hE : Heap) (n0 : Nat) (vv : Option Value) (hh : Heap) (LL : List Loc) : Prop := ∃ y : Addr, ∃ u : Addr, (vv = some (.ref y)) ∧ (Fr n0 LL) ∧ (Keep hE hh []) ∧ (WStr Z hh y u (caL cs))
theorem rm_csm (hw : HW a0 Z) (ws : List Cond) (x t : Addr) (cs : List Int32) (zc : Int32) (fm : Value) (hE : Heap) (n0 : Nat) (O : Old Z n0 hE) (P0_ : WStr Z hE x t cs) (D0_ : Sta Z Z.heap c0_ c8_ "Z" (.int zc)) (D1_ : Sta Z Z.heap c3_ c7_ c4_ fm) (D2_ : Sta Z Z.heap c1_ c6_ "Z" (.int 1)) (D3_ : Sta Z Z.heap c1_ c9_ "I" (.int 0)) (D4_ : Sta Z Z.heap c1_ c10_ "I" (.int 8)) (h4 : cs.length ≤ 4) (hzc : ¬ (zc = (0 : Int32))) (hfm : fm.isRef = true) :
    MW la Z hE mn50 jc38 2 (some (.object c0_)) ws (rr 8 3 16 123) #[(.ref x)] (Q_csm Z x t cs zc fm hE n0) := by
  refine MetFree.of_bodySF (plainFor_of_name pn_com_example_detangle_detangle_TestList) hisR ?_
  intro pg ev sb mi gs below me cd s₁ Bd hml0 hPt hKt
  obtain ⟨rfl, hZ, hh, hH⟩ := hPt
  have hx := Bd.exec
  have hby := Bd.bytes
  have hml : cd.maxLocals = 2 := hml0
  have hown : sb.vm.findClass c11_ = some mi.cls := findClass_of_methodNamed Bd.named
  have X0 : Stand pg la ev (rr 8 3 16 123) (sb.setVm sb.vm) mi #[(.ref x)] below me cd s₁ [] 0 0 := Stand.of_body Bd
  have eE : s₁.heap = hE := by rw [← hh, Bd.state]; rfl
  have N0 := Fr.nil n0
  have pre0 : ∀ tt, SP pg ev below (s₁.setTop (mkF mi 0 #[.val (.ref x), .unset] [])) tt → SP pg ev below (s₁.setTop (entryFrame mi #[(.ref x)] 2)) tt := fun tt kk => castTop (ef_csm mi x) kk
  have hS : sb.Since sb.vm 0 := (State.WarmedH.refl sb).since 0
  have hk : 0 ≤ hE.size := Nat.zero_le _
  have hEL := own_EW hw
  have C0 := CHr.refl hH
  obtain ⟨cq101, kq101, q101a, q101b, q101c⟩ := isOf hZ eE (P0_).1
  obtain ⟨v101, _, ⟨T101, L101, k101, n101⟩, -, X101, ⟨Lc101, hQ101, l101, y101, z101⟩, st101⟩ := X0.virtualBack hx (y := mn29) (z := mn29) hown (mvT hZ (wd34 hw)) (mvT hZ (wd35 hw)) (notFace_of_selects (args := #[]) (mvT hZ (wd37 hw))) (mvT hZ (wd37 hw)) (mvT hZ (wd36 hw)) (by decide) (backOf (W := 0) (rm_siy la Z a0 hw [] x t cs zc fm hE n0 O P0_ D0_ D1_ D2_ D3_ D4_ (h4 : cs.length ≤ 4) (hzc : ¬ (zc = (0 : Int32))) (hfm : fm.isRef = true)) hZ (wd38 hw) (wd11 hw) (by decide) (by decide)) q101a q101c (g := (mkF mi 3 #[.val (.ref x), .unset] [(.int 35), (.ref x)])) rfl (by rw [hml]; rfl) (Steps.refl _) (argsL := [(.int 35)]) (rest := []) (lenOf pd_5 rfl) rfl (Nat.le_of_ble_eq_true rfl) (hb hby dj38_3) (fun _ _ => ⟨rfl, eE, (by decide : 0 + 0 ≤ _), (by decide : 0 + 0 ≤ _)⟩)
  dsimp only [Pt.U, Pt.locs, Pt.cells, Pt.slots] at X101 l101 y101 z101 st101 hQ101
  subst l101 y101 z101
  obtain ⟨rfl, Nq101, ek101⟩ := hQ101
  have N101 := Fr.app N0 Nq101
  have pre103 : ∀ tt, SP pg ev below (T101.setTop (mkF mi 8 #[.val (.ref x), .val (.int (ixG 0 cs))] [(.int (ixG 0 cs))])) tt → SP pg ev below (s₁.setTop (entryFrame mi #[(.ref x)] 2)) tt := fun tt kk => pre0 _ (by
    show SP pg ev below (s₁.setTop (mkF mi 0 #[.val (.ref x), .unset] [])) _
    refine XS.aloadN X0.here hx rfl (hb hby dj38_0) rfl rfl ?_
    refine XS.bipush X0.here hx rfl (hb hby dj38_1) ?_
    refine st101.trans ?_
    refine XS.istoreN X101.here hx rfl (hb hby dj38_6) rfl (l' := #[.val (.ref x), .val (.int (ixG 0 cs))]) rfl ?_
    refine XS.iloadN X101.here hx rfl (hb hby dj38_7) rfl ?_
    exact kk)
  by_cases hc102 : (ixG 0 cs) < (0 : Int32)
  · have s104 : WStr Z hE x t (caL cs) := by rw [(show caL cs = cs from if_pos hc102)]; exact P0_
    obtain ⟨fs, hr, hrun, hended, hWe⟩ := X101.leaveW hS (show _ ≤ T101.heap.size by rw [ek101]; exact hk) (v := some (.ref x)) (fun hq => by rw [Bd.returns] at hq; cases hq)
    refine ⟨_, _, pre103 _ ?_, hrun, hended, _, _, rfl, ?_, ?_, hWe.1, hWe.2.1, hWe.2.2.1, hWe.2.2.2.mono (by decide) (by decide)⟩
    · show SP pg ev below (T101.setTop (mkF mi 8 #[.val (.ref x), .val (.int (ixG 0 cs))] [(.int (ixG 0 cs))])) _
      refine XS.ifNo X101.here hx rfl (hb hby dj38_8) rfl ((if0 _ _).trans (tlt hc102).2.1) ?_
      refine XS.aloadN X101.here hx rfl (hb hby dj38_11) rfl rfl ?_
      refine XS.goto X101.here hx rfl (pc0 := 12) (pc' := 22) rfl (hb hby dj38_12) (by decide) (by decide) ?_
      show SP pg ev below (T101.setTop (mkF mi 22 #[.val (.ref x), .val (.int (ixG 0 cs))] [(.ref x)])) _
      jvm_step X101.here [X101.here.top, hx, (hb hby dj38_22), X101.method', Bd.returns, Value.isRef, FieldType.isReference]
      first | (intro acts; rw [hr _ acts rfl rfl rfl]) | rw [hr _ _ rfl rfl rfl]
      exact Steps.refl _
    · show Q_csm Z x t cs zc fm hE n0 _ T101.heap _
      rw [ek101]
      exact ⟨x, t, rfl, N101, (Keep.refl hE []), s104⟩
    · show CHr Z ELs sb.vm sb.heap T101.vm T101.heap
      rw [hh, ek101]
      exact CHr.trans C0 (CHv.at X101 hZ hEL C0.1)
  · obtain ⟨m0, em, hm, -⟩ := own_cn_pos h4 hc102
    have pre105 : ∀ tt, SP pg ev below (T101.setTop (mkF mi 19 #[.val (.ref x), .val (.int (ixG 0 cs))] [(.int ((ixG 0 cs) + (1 : Int32))), (.ref x)])) tt → SP pg ev below (s₁.setTop (entryFrame mi #[(.ref x)] 2)) tt := fun tt kk => pre103 _ (by
      show SP pg ev below (T101.setTop (mkF mi 8 #[.val (.ref x), .val (.int (ixG 0 cs))] [(.int (ixG 0 cs))])) _
      refine XS.ifYes X101.here hx rfl (pc0 := 8) (pc' := 15) rfl (hb hby dj38_8) rfl ((if0 _ _).trans (flt hc102).2.1) (by decide) (by decide) ?_
      refine XS.aloadN X101.here hx rfl (hb hby dj38_15) rfl rfl ?_
      refine XS.iloadN X101.here hx rfl (hb hby dj38_16) rfl ?_
      refine XS.iconst X101.here hx rfl (hb hby dj38_17) ?_
      refine XS.iadd X101.here hx rfl (hb hby dj38_18) rfl ?_
      exact kk)
    have pre106 : ∀ tt, SP pg ev below (T101.setTop (mkF mi 19 #[.val (.ref x), .val (.int (Int32.ofNat m0))] [(.int ((Int32.ofNat m0) + (1 : Int32))), (.ref x)])) tt → SP pg ev below (s₁.setTop (entryFrame mi #[(.ref x)] 2)) tt := fun tt kk => pre105 tt (by rw [show (ixG 0 cs) = Int32.ofNat m0 from em]; exact kk)
    have pre107 : ∀ tt, SP pg ev below (T101.setTop (mkF mi 19 #[.val (.ref x), .val (.int (Int32.ofNat m0))] [(.int (Int32.ofNat (m0 + 1))), (.ref x)])) tt → SP pg ev below (s₁.setTop (entryFrame mi #[(.ref x)] 2)) tt := fun tt kk => pre106 tt (by rw [show ((Int32.ofNat m0) + (1 : Int32)) = (Int32.ofNat (m0 + 1)) from own_add32 m0 1]; exact kk)
    by_cases hc108 : m0 + 1 = cs.length
    · have pre109 : ∀ tt, SP pg ev below (T101.setTop (mkF mi 19 #[.val (.ref x), .val (.int (Int32.ofNat m0))] [(.int (Int32.ofNat cs.length)), (.ref x)])) tt → SP pg ev below (s₁.setTop (entryFrame mi #[(.ref x)] 2)) tt := fun tt kk => pre107 tt (by rw [show (Int32.ofNat (m0 + 1)) = (Int32.ofNat cs.length) from by rw [hc108]]; exact kk)
      obtain ⟨cq110, kq110, q110a, q110b, q110c⟩ := isOf hZ ek101 (P0_).1
      obtain ⟨v110, _, ⟨T110, L110, k110, n110⟩, -, X110, s110, gr110, ⟨Lc110, hQ110, l110, y110, z110, c110⟩, st110⟩ := X101.virtualBackS hx (y := mn39) (z := mn39) hown (mvT hZ (wd94 hw)) (mvT hZ (wd95 hw)) (notFace_of_selects (args := #[]) (mvT hZ (wd97 hw))) (mvT hZ (wd97 hw)) (mvT hZ (wd96 hw)) (by decide) (backOfSH (W := 0) (rm_sbi0 la Z a0 hw [] x t cs zc fm hE n0 O P0_ D0_ D1_ (by omega : 0 < cs.length) (h4 : cs.length ≤ 4) (hzc : ¬ (zc = (0 : Int32))) (hfm : fm.isRef = true)) hZ (wd98 hw) (wd11 hw) (by decide) (by decide) hEL C0.1) q110a q110c (g := (mkF mi 19 #[.val (.ref x), .val (.int (Int32.ofNat m0))] [(.int (Int32.ofNat cs.length)), (.ref x)])) rfl (by rw [hml]; rfl) (Steps.refl _) (argsL := [(.int (Int32.ofNat cs.length))]) (rest := []) (lenOf pd_29 rfl) rfl (Nat.le_of_ble_eq_true rfl) (hb hby dj38_19) (fun _ _ => ⟨rfl, ek101, (by decide : 0 + 2 ≤ _), (by decide : 0 + 4 ≤ _)⟩)
      dsimp only [Pt.U, Pt.locs, Pt.cells, Pt.slots] at X110 s110 gr110 l110 y110 z110 c110 st110 hQ110
      subst l110 y110 z110
      obtain ⟨X110, hS, hZ, hown⟩ := rebS hS (show _ ≤ T101.heap.size by rw [ek101]; exact hk) X110 s110 gr110 hZ hown
      have hk : T110.heap.size ≤ T110.heap.size := Nat.le_refl _
      obtain ⟨y_110, u_110, rfl, Nq110, Kq110, r110_0⟩ := hQ110
      have N110 := Fr.app N101 Nq110
      have C111 := CHr.trans C0 c110
      have s112 : WStr Z T110.heap y_110 u_110 (caL cs) := by rw [(show caL cs = cs.drop (m0 + 1) from by unfold caL; rw [if_neg hc102, em, own_wn (by omega)]), List.drop_of_length_le (by omega)]; exact r110_0
      obtain ⟨fs, hr, hrun, hended, hWe⟩ := X110.leaveW hS (show _ ≤ T110.heap.size from hk) (v := some (.ref y_110)) (fun hq => by rw [Bd.returns] at hq; cases hq)
      refine ⟨_, _, pre109 _ ?_, hrun, hended, _, _, rfl, ?_, ?_, hWe.1, hWe.2.1, hWe.2.2.1, hWe.2.2.2.mono (by decide) (by decide)⟩
      · show SP pg ev below (T101.setTop (mkF mi 19 #[.val (.ref x), .val (.int (Int32.ofNat m0))] [(.int (Int32.ofNat cs.length)), (.ref x)])) _
        refine st110.trans ?_
        show SP pg ev below (T110.setTop (mkF mi 22 #[.val (.ref x), .val (.int (Int32.ofNat m0))] [(.ref y_110)])) _
        jvm_step X110.here [X110.here.top, hx, (hb hby dj38_22), X110.method', Bd.returns, Value.isRef, FieldType.isReference]
        first | (intro acts; rw [hr _ acts rfl rfl rfl]) | rw [hr _ _ rfl rfl rfl]
        exact Steps.refl _
      · show Q_csm Z x t cs zc fm hE n0 _ T110.heap _
        exact ⟨y_110, u_110, rfl, N110, ((Keep.refl hE []).trans Kq110 all0), s112⟩
      · show CHr Z ELs sb.vm sb.heap T110.vm T110.heap
        rw [hh]
        exact CHr.trans C111 (CHv.at X110 hZ hEL C111.1)
    · obtain ⟨cq113, kq113, q113a, q113b, q113c⟩ := isOf hZ ek101 (P0_).1
      obtain ⟨v113, _, ⟨T113, L113, k113, n113⟩, -, X113, ⟨Lc113, hQ113, l113, y113, z113⟩, st113⟩ := X101.virtualBack hx (y := mn39) (z := mn39) hown (mvT hZ (wd94 hw)) (mvT hZ (wd95 hw)) (notFace_of_selects (args := #[]) (mvT hZ (wd97 hw))) (mvT hZ (wd97 hw)) (mvT hZ (wd96 hw)) (by decide) (backOf (W := 0) (rm_sbi la Z a0 hw [] x t cs (m0 + 1) (cs.length - (m0 + 1)) zc fm hE n0 O P0_ D2_ D3_ D4_ D0_ D1_ (by omega : 0 < (m0 + 1)) (by omega : 0 < (cs.length - (m0 + 1))) (by omega : (m0 + 1) + (cs.length - (m0 + 1)) = cs.length) (h4 : cs.length ≤ 4) (hzc : ¬ (zc = (0 : Int32))) (hfm : fm.isRef = true)) hZ (wd98 hw) (wd11 hw) (by decide) (by decide)) q113a q113c (g := (mkF mi 19 #[.val (.ref x), .val (.int (Int32.ofNat m0))] [(.int (Int32.ofNat (m0 + 1))), (.ref x)])) rfl (by rw [hml]; rfl) (Steps.refl _) (argsL := [(.int (Int32.ofNat (m0 + 1)))]) (rest := []) (lenOf pd_29 rfl) rfl (Nat.le_of_ble_eq_true rfl) (hb hby dj38_19) (fun _ _ => ⟨rfl, ek101, (by decide : 0 + 3 ≤ _), (by decide : 0 + 16 ≤ _)⟩)
      dsimp only [Pt.U, Pt.locs, Pt.cells, Pt.slots] at X113 l113 y113 z113 st113 hQ113
      subst l113 y113 z113
      obtain ⟨y_113, u_113, rfl, Nq113, Kq113, fr_y_113, fr_u_113, r113_0⟩ := hQ113
      have N113 := Fr.app N101 Nq113
      have c114 := CHr.keep Kq113 sf0 C0.1
      have C115 := CHr.trans C0 c114
      have s116 : WStr Z T113.heap y_113 u_113 (caL cs) := by rw [(show caL cs = cs.drop (m0 + 1) from by unfold caL; rw [if_neg hc102, em, own_wn (by omega)])]; exact r113_0
      obtain ⟨fs, hr, hrun, hended, hWe⟩ := X113.leaveW hS (show _ ≤ T113.heap.size from (Nat.le_trans hk Kq113.1)) (v := some (.ref y_113)) (fun hq => by rw [Bd.returns] at hq; cases hq)
      refine ⟨_, _, pre107 _ ?_, hrun, hended, _, _, rfl, ?_, ?_, hWe.1, hWe.2.1, hWe.2.2.1, hWe.2.2.2.mono (by decide) (by decide)⟩
      · show SP pg ev below (T101.setTop (mkF mi 19 #[.val (.ref x), .val (.int (Int32.ofNat m0))] [(.int (Int32.ofNat (m0 + 1))), (.ref x)])) _
        refine st113.trans ?_
        show SP pg ev below (T113.setTop (mkF mi 22 #[.val (.ref x), .val (.int (Int32.ofNat m0))] [(.ref y_113)])) _
        jvm_step X113.here [X113.here.top, hx, (hb hby dj38_22), X113.method', Bd.returns, Value.isRef, FieldType.isReference]
        first | (intro acts; rw [hr _ acts rfl rfl rfl]) | rw [hr _ _ rfl rfl rfl]
        exact Steps.refl _
      · show Q_csm Z x t cs zc fm hE n0 _ T113.heap _
        exact ⟨y_113, u_113, rfl, N113, ((Keep.refl hE []).trans Kq113 all0), s116⟩
      · show CHr Z ELs sb.vm sb.heap T113.vm T113.heap
        rw [hh]
        exact CHr.trans C115 (CHv.at X113 hZ hEL C115.1)
theorem pd_30 : parseMethodDescriptor "([CI)Ljava/lang/String;" = some ⟨[(.array .char), .int], some (.object "java/lang/String")⟩ := by decide +kernel
theorem pd_31 : parseMethodDescriptor "(Ljava/lang/String;)Ljava/lang/String;" = some ⟨[(.object "java/lang/String")], some (.object "java/lang/String")⟩ := by decide +kernel
theorem pd_32 : parseMethodDescriptor "([CI)I" = some ⟨[(.array .char), .int], some .int⟩ := by decide +kernel
theorem pd_33 : parseMethodDescriptor "(Ljava/lang/String;[CII)Z" = some ⟨[(.object "java/lang/String"), (.array .char), .int, .int], some .boolean⟩ := by decide +kernel
theorem ef_law (mi : MethodId) (x0 : Int32) (x1 : Int32) (x2 : Int32) (x3 : Int32) (x4 : Int32) : entryFrame mi #[(.int x0), (.int x1), (.int x2), (.int x3), (.int x4)] maxLocals = mkF mi 0 #[.val (.int x0), .val (.int x1), .val (.int x2), .val (.int x3), .val (.int x4), .unset, .unset, .unset, .unset, .unset, .unset] [] := by first | (simp [entryFrame, mkF, argsToLocals, Value.category, maxLocals]; done) | rfl
def Q_law (Z : State) (x0 x1 x2 x3 x4 zc : Int32) (fm : Value) (hE : Heap) (n0 : Nat) (vv : Option Value) (hh : Heap) (LL : List Loc) : Prop := (vv = some (.int 1)) ∧ (Fr n0 LL)
theorem rm_law (hw : HW a0 Z) (ws : List Cond) (x0 x1 x2 x3 x4 zc : Int32) (fm : Value) (hE : Heap) (n0 : Nat) (O : Old Z n0 hE) (D0_ : Sta Z Z.heap c0_ c8_ "Z" (.int zc)) (D1_ : Sta Z Z.heap c3_ c7_ c4_ fm) (D2_ : Sta Z Z.heap c1_ c6_ "Z" (.int 1)) (D3_ : Sta Z Z.heap c1_ c9_ "I" (.int 0)) (D4_ : Sta Z Z.heap c1_ c10_ "I" (.int 8)) (hzc : ¬ (zc = (0 : Int32))) (hfm : fm.isRef = true) :
    MetFree la x (head1 (Cond.code x code maxLocals ret :: ws) room_1) (fun aa UU => aa = #[(.int x0), (.int x1), (.int x2), (.int x3), (.int x4)] ∧ Z.Warmed39 UU.vm ∧ UU.heap = hE ∧ CHv Z ELs UU.vm hE) (fun _ _ _ _ _ => True) (fun _ UU oo UV => ∃ vv LL, oo = .returned vv ∧ Q_law Z x0 x1 x2 x3 x4 zc fm hE n0 vv UV.heap LL ∧ CHr Z ELs UU.vm UU.heap UV.vm UV.heap ∧ ReturnedEndW UU oo UV LL room_1.cells room_1.slots) := by
  refine MetFree.of_bodySF (plainFor_of_name pn_com_example_detangle_detangle_TestListCaseNamePinLaw) hisR ?_
  intro pg ev sb mi gs below me cd s₁ Bd hml0 hPt hKt
  obtain ⟨rfl, hZ, hh, hH⟩ := hPt
  have hx := Bd.exec
  have hby := Bd.bytes
  have hml : cd.maxLocals = 11 := hml0
  have hown : sb.vm.findClass c2_ = some mi.cls := findClass_of_methodNamed Bd.named
  have X0 : Stand pg la ev room_1 (sb.setVm sb.vm) mi #[(.int x0), (.int x1), (.int x2), (.int x3), (.int x4)] below me cd s₁ [] 0 0 := Stand.of_body Bd
  have eE : s₁.heap = hE := by rw [← hh, Bd.state]; rfl
  have N0 := Fr.nil n0
  have pre0 : ∀ tt, SP pg ev below (s₁.setTop (mkF mi 0 #[.val (.int x0), .val (.int x1), .val (.int x2), .val (.int x3), .val (.int x4), .unset, .unset, .unset, .unset, .unset, .unset] [])) tt → SP pg ev below (s₁.setTop (entryFrame mi #[(.int x0), (.int x1), (.int x2), (.int x3), (.int x4)] maxLocals)) tt := fun tt kk => castTop (ef_law mi x0 x1 x2 x3 x4) kk
  have hS : sb.Since sb.vm 0 := (State.WarmedH.refl sb).since 0
  have hk : 0 ≤ hE.size := Nat.zero_le _
  have hEL := own_EW hw
  have C0 := CHr.refl hH
  obtain ⟨nn, en, hn4⟩ := own_rem5n x4
  have pre101 : ∀ tt, SP pg ev below (s₁.setTop (mkF mi 7 #[.val (.int x0), .val (.int x1), .val (.int x2), .val (.int x3), .val (.int x4), .unset, .unset, .unset, .unset, .unset, .unset] [(.int ((x4 &&& (2147483647 : Int32)) % (5 : Int32)))])) tt → SP pg ev below (s₁.setTop (entryFrame mi #[(.int x0), (.int x1), (.int x2), (.int x3), (.int x4)] maxLocals)) tt := fun tt kk => pre0 _ (by
    show SP pg ev below (s₁.setTop (mkF mi 0 #[.val (.int x0), .val (.int x1), .val (.int x2), .val (.int x3), .val (.int x4), .unset, .unset, .unset, .unset, .unset, .unset] [])) _
    refine XS.iload X0.here hx rfl (hb hby at_0) rfl ?_
    refine X0.ldcInt hx hown (mvT hZ (wd0 hw)) (g := (mkF mi 2 #[.val (.int x0), .val (.int x1), .val (.int x2), .val (.int x3), .val (.int x4), .unset, .unset, .unset, .unset, .unset, .unset] [(.int x4)])) rfl (hb hby at_2) _ ?_
    refine XS.iand X0.here hx rfl (hb hby at_4) rfl ?_
    refine XS.iconst X0.here hx rfl (hb hby at_5) ?_
    refine iremM X0 hx rfl (hb hby at_6) rfl (by decide) ?_
    exact kk)
  have pre102 : ∀ tt, SP pg ev below (s₁.setTop (mkF mi 7 #[.val (.int x0), .val (.int x1), .val (.int x2), .val (.int x3), .val (.int x4), .unset, .unset, .unset, .unset, .unset, .unset] [(.int (Int32.ofNat nn))])) tt → SP pg ev below (s₁.setTop (entryFrame mi #[(.int x0), (.int x1), (.int x2), (.int x3), (.int x4)] maxLocals)) tt := fun tt kk => pre101 tt (by rw [show ((x4 &&& (2147483647 : Int32)) % (5 : Int32)) = Int32.ofNat nn from en]; exact kk)
  obtain ⟨T103, h103, k103, X103, e103, E103, A103, st103⟩ := newP (aty := .char) X0 hx hZ (wd1 hw) eE (g := (mkF mi 10 #[.val (.int x0), .val (.int x1), .val (.int x2), .val (.int x3), .val (.int x4), .val (.int (Int32.ofNat nn)), .unset, .unset, .unset, .unset, .unset] [(.int 4)])) rfl (hb hby at_10) rfl (by decide) (cap := 4) (by decide) (by decide) (by decide) (by decide)
  obtain ⟨b103, q103⟩ : ∃ z, z = hE.size := ⟨_, rfl⟩
  rw [← q103] at A103 st103
  have c104 := CHr.ext E103 C0.1
  have C105 := CHr.trans C0 c104
  have f106 : Arv Z h103 b103 k103 .char (4 : Int32) [(.int 0), (.int 0), (.int 0), (.int 0)] (.int 0) := (Arv.new A103 (by decide)).pad (pad_rep [] (.int 0) 4)
  have O107 : Old Z n0 h103 := (O.ext E103)
  obtain ⟨v108, _, ⟨T108, L108, k108, n108⟩, -, X108, ⟨Lc108, hQ108, l108, y108, z108⟩, st108⟩ := Jvm.LawKit.callS X103 hx (y := mn46) hown (mvT hZ (wd2 hw)) (mvT hZ (wd3 hw)) (mvT hZ (wd4 hw)) (mvT hZ (wd5 hw)) (by decide) (backOf (W := 3) (rm_drw la Z a0 hw [] x0 h103 n0 O107) hZ (wd5 hw) (wd4 hw) (by decide) (by decide)) (g := (mkF mi 15 #[.val (.int x0), .val (.int x1), .val (.int x2), .val (.int x3), .val (.int x4), .val (.int (Int32.ofNat nn)), .unset, .unset, .unset, .unset, .unset] [(.int x0), (.int 0), (.ref b103), (.ref b103)])) rfl (by rw [hml]; rfl) (argsL := [(.int x0)]) (rest := [(.int 0), (.ref b103), (.ref b103)]) (lenOf pd_28 rfl) rfl (Nat.le_of_ble_eq_true rfl) (hb hby at_15) (fun _ _ => ⟨rfl, e103, (by decide : 1 + 0 ≤ _), (by decide : 4 + 0 ≤ _)⟩)
  dsimp only [Pt.U, Pt.locs, Pt.cells, Pt.slots] at X108 l108 y108 z108 st108 hQ108
  subst l108 y108 z108
  obtain ⟨rfl, Nq108, ek108⟩ := hQ108
  have N108 := Fr.app N0 Nq108
  obtain ⟨d0, he_d0⟩ : ∃ z, z = (drF x0) := ⟨_, rfl⟩
  have pre109 : ∀ tt, SP pg ev below (T108.setTop (mkF mi 18 #[.val (.int x0), .val (.int x1), .val (.int x2), .val (.int x3), .val (.int x4), .val (.int (Int32.ofNat nn)), .unset, .unset, .unset, .unset, .unset] [(.int (drF x0)), (.int 0), (.ref b103), (.ref b103)])) tt → SP pg ev below (s₁.setTop (entryFrame mi #[(.int x0), (.int x1), (.int x2), (.int x3), (.int x4)] maxLocals)) tt := fun tt kk => pre102 _ (by
    show SP pg ev below (s₁.setTop (mkF mi 7 #[.val (.int x0), .val (.int x1), .val (.int x2), .val (.int x3), .val (.int x4), .unset, .unset, .unset, .unset, .unset, .unset] [(.int (Int32.ofNat nn))])) _
    refine XS.istore X0.here hx rfl (hb hby at_7) rfl (l' := #[.val (.int x0), .val (.int x1), .val (.int x2), .val (.int x3), .val (.int x4), .val (.int (Int32.ofNat nn)), .unset, .unset, .unset, .unset, .unset]) rfl ?_
    refine XS.iconst X0.here hx rfl (hb hby at_9) ?_
    refine st103 _ ?_
    refine XS.dup X103.here hx rfl (hb hby at_12) rfl rfl ?_
    refine XS.iconst X103.here hx rfl (hb hby at_13) ?_
    refine XS.iloadN X103.here hx rfl (hb hby at_14) rfl ?_
    refine st108 _ ?_
    exact kk)
  have pre110 : ∀ tt, SP pg ev below (T108.setTop (mkF mi 18 #[.val (.int x0), .val (.int x1), .val (.int x2), .val (.int x3), .val (.int x4), .val (.int (Int32.ofNat nn)), .unset, .unset, .unset, .unset, .unset] [(.int d0), (.int 0), (.ref b103), (.ref b103)])) tt → SP pg ev below (s₁.setTop (entryFrame mi #[(.int x0), (.int x1), (.int x2), (.int x3), (.int x4)] maxLocals)) tt := fun tt kk => pre109 tt (by rw [← he_d0]; exact kk)
  have hd0 : ¬ d0 < 0 ∧ ¬ (65535 : Int32) < d0 := he_d0 ▸ own_dr _
  have g_b103 : n0 ≤ b103 := Nat.le_trans (Nat.le_trans (Nat.le_of_eq O.1.symm) O.2.1) (Nat.le_of_eq q103.symm)
  obtain ⟨T111, h111, L111, X111, e111, N111, Kq111, f111, st111⟩ := own_sc X108 hx hZ ek108 f106 0 (c := d0) (j := (0 : Int32)) (own_nar_w hd0) rfl (by decide) (Nat.le_of_ble_eq_true rfl) N108 g_b103 (g := (mkF mi 18 #[.val (.int x0), .val (.int x1), .val (.int x2), .val (.int x3), .val (.int x4), .val (.int (Int32.ofNat nn)), .unset, .unset, .unset, .unset, .unset] [(.int d0), (.int 0), (.ref b103), (.ref b103)])) rfl rfl (hb hby at_18)
  have c112 := CHr.keep Kq111 (sfS (Safe.arv hZ.alike f106 (by decide)) sf0) C105.1
  have C113 := CHr.trans C105 c112
  have O114 : Old Z n0 h111 := (O107.keep Kq111 (allS g_b103 all0))
  obtain ⟨v115, _, ⟨T115, L115, k115, n115⟩, -, X115, ⟨Lc115, hQ115, l115, y115, z115⟩, st115⟩ := Jvm.LawKit.callS X111 hx (y := mn46) hown (mvT hZ (wd2 hw)) (mvT hZ (wd3 hw)) (mvT hZ (wd4 hw)) (mvT hZ (wd5 hw)) (by decide) (backOf (W := 3) (rm_drw la Z a0 hw [] x1 h111 n0 O114) hZ (wd5 hw) (wd4 hw) (by decide) (by decide)) (g := (mkF mi 22 #[.val (.int x0), .val (.int x1), .val (.int x2), .val (.int x3), .val (.int x4), .val (.int (Int32.ofNat nn)), .unset, .unset, .unset, .unset, .unset] [(.int x1), (.int 1), (.ref b103), (.ref b103)])) rfl (by rw [hml]; rfl) (argsL := [(.int x1)]) (rest := [(.int 1), (.ref b103), (.ref b103)]) (lenOf pd_28 rfl) rfl (Nat.le_of_ble_eq_true rfl) (hb hby at_22) (fun _ _ => ⟨rfl, e111, (by decide : 1 + 0 ≤ _), (by decide : 4 + 0 ≤ _)⟩)
  dsimp only [Pt.U, Pt.locs, Pt.cells, Pt.slots] at X115 l115 y115 z115 st115 hQ115
  subst l115 y115 z115
  obtain ⟨rfl, Nq115, ek115⟩ := hQ115
  have N115 := Fr.app N111 Nq115
  obtain ⟨d1, he_d1⟩ : ∃ z, z = (drF x1) := ⟨_, rfl⟩
  have pre116 : ∀ tt, SP pg ev below (T115.setTop (mkF mi 25 #[.val (.int x0), .val (.int x1), .val (.int x2), .val (.int x3), .val (.int x4), .val (.int (Int32.ofNat nn)), .unset, .unset, .unset, .unset, .unset] [(.int (drF x1)), (.int 1), (.ref b103), (.ref b103)])) tt → SP pg ev below (s₁.setTop (entryFrame mi #[(.int x0), (.int x1), (.int x2), (.int x3), (.int x4)] maxLocals)) tt := fun tt kk => pre110 _ (by
    show SP pg ev below (T108.setTop (mkF mi 18 #[.val (.int x0), .val (.int x1), .val (.int x2), .val (.int x3), .val (.int x4), .val (.int (Int32.ofNat nn)), .unset, .unset, .unset, .unset, .unset] [(.int d0), (.int 0), (.ref b103), (.ref b103)])) _
    refine st111 _ ?_
    refine XS.dup X111.here hx rfl (hb hby at_19) rfl rfl ?_
    refine XS.iconst X111.here hx rfl (hb hby at_20) ?_
    refine XS.iloadN X111.here hx rfl (hb hby at_21) rfl ?_
    refine st115 _ ?_
    exact kk)
  have pre117 : ∀ tt, SP pg ev below (T115.setTop (mkF mi 25 #[.val (.int x0), .val (.int x1), .val (.int x2), .val (.int x3), .val (.int x4), .val (.int (Int32.ofNat nn)), .unset, .unset, .unset, .unset, .unset] [(.int d1), (.int 1), (.ref b103), (.ref b103)])) tt → SP pg ev below (s₁.setTop (entryFrame mi #[(.int x0), (.int x1), (.int x2), (.int x3), (.int x4)] maxLocals)) tt := fun tt kk => pre116 tt (by rw [← he_d1]; exact kk)
  have hd1 : ¬ d1 < 0 ∧ ¬ (65535 : Int32) < d1 := he_d1 ▸ own_dr _
  obtain ⟨T118, h118, L118, X118, e118, N118, Kq118, f118, st118⟩ := own_sc X115 hx hZ ek115 f111 1 (c := d1) (j := (1 : Int32)) (own_nar_w hd1) rfl (by decide) (Nat.le_of_ble_eq_true rfl) N115 g_b103 (g := (mkF mi 25 #[.val (.int x0), .val (.int x1), .val (.int x2), .val (.int x3), .val (.int x4), .val (.int (Int32.ofNat nn)), .unset, .unset, .unset, .unset, .unset] [(.int d1), (.int 1), (.ref b103), (.ref b103)])) rfl rfl (hb hby at_25)
  have c119 := CHr.keep Kq118 (sfS (Safe.arv hZ.alike f111 (by decide)) sf0) C113.1
  have C120 := CHr.trans C113 c119
  have O121 : Old Z n0 h118 := (O114.keep Kq118 (allS g_b103 all0))
  obtain ⟨v122, _, ⟨T122, L122, k122, n122⟩, -, X122, ⟨Lc122, hQ122, l122, y122, z122⟩, st122⟩ := Jvm.LawKit.callS X118 hx (y := mn46) hown (mvT hZ (wd2 hw)) (mvT hZ (wd3 hw)) (mvT hZ (wd4 hw)) (mvT hZ (wd5 hw)) (by decide) (backOf (W := 3) (rm_drw la Z a0 hw [] x2 h118 n0 O121) hZ (wd5 hw) (wd4 hw) (by decide) (by decide)) (g := (mkF mi 29 #[.val (.int x0), .val (.int x1), .val (.int x2), .val (.int x3), .val (.int x4), .val (.int (Int32.ofNat nn)), .unset, .unset, .unset, .unset, .unset] [(.int x2), (.int 2), (.ref b103), (.ref b103)])) rfl (by rw [hml]; rfl) (argsL := [(.int x2)]) (rest := [(.int 2), (.ref b103), (.ref b103)]) (lenOf pd_28 rfl) rfl (Nat.le_of_ble_eq_true rfl) (hb hby at_29) (fun _ _ => ⟨rfl, e118, (by decide : 1 + 0 ≤ _), (by decide : 4 + 0 ≤ _)⟩)
  dsimp only [Pt.U, Pt.locs, Pt.cells, Pt.slots] at X122 l122 y122 z122 st122 hQ122
  subst l122 y122 z122
  obtain ⟨rfl, Nq122, ek122⟩ := hQ122
  have N122 := Fr.app N118 Nq122
  obtain ⟨d2, he_d2⟩ : ∃ z, z = (drF x2) := ⟨_, rfl⟩
  have pre123 : ∀ tt, SP pg ev below (T122.setTop (mkF mi 32 #[.val (.int x0), .val (.int x1), .val (.int x2), .val (.int x3), .val (.int x4), .val (.int (Int32.ofNat nn)), .unset, .unset, .unset, .unset, .unset] [(.int (drF x2)), (.int 2), (.ref b103), (.ref b103)])) tt → SP pg ev below (s₁.setTop (entryFrame mi #[(.int x0), (.int x1), (.int x2), (.int x3), (.int x4)] maxLocals)) tt := fun tt kk => pre117 _ (by
    show SP pg ev below (T115.setTop (mkF mi 25 #[.val (.int x0), .val (.int x1), .val (.int x2), .val (.int x3), .val (.int x4), .val (.int (Int32.ofNat nn)), .unset, .unset, .unset, .unset, .unset] [(.int d1), (.int 1), (.ref b103), (.ref b103)])) _
    refine st118 _ ?_
    refine XS.dup X118.here hx rfl (hb hby at_26) rfl rfl ?_
    refine XS.iconst X118.here hx rfl (hb hby at_27) ?_
    refine XS.iloadN X118.here hx rfl (hb hby at_28) rfl ?_
    refine st122 _ ?_
    exact kk)
  have pre124 : ∀ tt, SP pg ev below (T122.setTop (mkF mi 32 #[.val (.int x0), .val (.int x1), .val (.int x2), .val (.int x3), .val (.int x4), .val (.int (Int32.ofNat nn)), .unset, .unset, .unset, .unset, .unset] [(.int d2), (.int 2), (.ref b103), (.ref b103)])) tt → SP pg ev below (s₁.setTop (entryFrame mi #[(.int x0), (.int x1), (.int x2), (.int x3), (.int x4)] maxLocals)) tt := fun tt kk => pre123 tt (by rw [← he_d2]; exact kk)
  have hd2 : ¬ d2 < 0 ∧ ¬ (65535 : Int32) < d2 := he_d2 ▸ own_dr _
  obtain ⟨T125, h125, L125, X125, e125, N125, Kq125, f125, st125⟩ := own_sc X122 hx hZ ek122 f118 2 (c := d2) (j := (2 : Int32)) (own_nar_w hd2) rfl (by decide) (Nat.le_of_ble_eq_true rfl) N122 g_b103 (g := (mkF mi 32 #[.val (.int x0), .val (.int x1), .val (.int x2), .val (.int x3), .val (.int x4), .val (.int (Int32.ofNat nn)), .unset, .unset, .unset, .unset, .unset] [(.int d2), (.int 2), (.ref b103), (.ref b103)])) rfl rfl (hb hby at_32)
  have c126 := CHr.keep Kq125 (sfS (Safe.arv hZ.alike f118 (by decide)) sf0) C120.1
  have C127 := CHr.trans C120 c126
  have O128 : Old Z n0 h125 := (O121.keep Kq125 (allS g_b103 all0))
  obtain ⟨v129, _, ⟨T129, L129, k129, n129⟩, -, X129, ⟨Lc129, hQ129, l129, y129, z129⟩, st129⟩ := Jvm.LawKit.callS X125 hx (y := mn46) hown (mvT hZ (wd2 hw)) (mvT hZ (wd3 hw)) (mvT hZ (wd4 hw)) (mvT hZ (wd5 hw)) (by decide) (backOf (W := 3) (rm_drw la Z a0 hw [] x3 h125 n0 O128) hZ (wd5 hw) (wd4 hw) (by decide) (by decide)) (g := (mkF mi 36 #[.val (.int x0), .val (.int x1), .val (.int x2), .val (.int x3), .val (.int x4), .val (.int (Int32.ofNat nn)), .unset, .unset, .unset, .unset, .unset] [(.int x3), (.int 3), (.ref b103), (.ref b103)])) rfl (by rw [hml]; rfl) (argsL := [(.int x3)]) (rest := [(.int 3), (.ref b103), (.ref b103)]) (lenOf pd_28 rfl) rfl (Nat.le_of_ble_eq_true rfl) (hb hby at_36) (fun _ _ => ⟨rfl, e125, (by decide : 1 + 0 ≤ _), (by decide : 4 + 0 ≤ _)⟩)
  dsimp only [Pt.U, Pt.locs, Pt.cells, Pt.slots] at X129 l129 y129 z129 st129 hQ129
  subst l129 y129 z129
  obtain ⟨rfl, Nq129, ek129⟩ := hQ129
  have N129 := Fr.app N125 Nq129
  obtain ⟨d3, he_d3⟩ : ∃ z, z = (drF x3) := ⟨_, rfl⟩
  have pre130 : ∀ tt, SP pg ev below (T129.setTop (mkF mi 39 #[.val (.int x0), .val (.int x1), .val (.int x2), .val (.int x3), .val (.int x4), .val (.int (Int32.ofNat nn)), .unset, .unset, .unset, .unset, .unset] [(.int (drF x3)), (.int 3), (.ref b103), (.ref b103)])) tt → SP pg ev below (s₁.setTop (entryFrame mi #[(.int x0), (.int x1), (.int x2), (.int x3), (.int x4)] maxLocals)) tt := fun tt kk => pre124 _ (by
    show SP pg ev below (T122.setTop (mkF mi 32 #[.val (.int x0), .val (.int x1), .val (.int x2), .val (.int x3), .val (.int x4), .val (.int (Int32.ofNat nn)), .unset, .unset, .unset, .unset, .unset] [(.int d2), (.int 2), (.ref b103), (.ref b103)])) _
    refine st125 _ ?_
    refine XS.dup X125.here hx rfl (hb hby at_33) rfl rfl ?_
    refine XS.iconst X125.here hx rfl (hb hby at_34) ?_
    refine XS.iloadN X125.here hx rfl (hb hby at_35) rfl ?_
    refine st129 _ ?_
    exact kk)
  have pre131 : ∀ tt, SP pg ev below (T129.setTop (mkF mi 39 #[.val (.int x0), .val (.int x1), .val (.int x2), .val (.int x3), .val (.int x4), .val (.int (Int32.ofNat nn)), .unset, .unset, .unset, .unset, .unset] [(.int d3), (.int 3), (.ref b103), (.ref b103)])) tt → SP pg ev below (s₁.setTop (entryFrame mi #[(.int x0), (.int x1), (.int x2), (.int x3), (.int x4)] maxLocals)) tt := fun tt kk => pre130 tt (by rw [← he_d3]; exact kk)
  have hd3 : ¬ d3 < 0 ∧ ¬ (65535 : Int32) < d3 := he_d3 ▸ own_dr _
  obtain ⟨T132, h132, L132, X132, e132, N132, Kq132, f132, st132⟩ := own_sc X129 hx hZ ek129 f125 3 (c := d3) (j := (3 : Int32)) (own_nar_w hd3) rfl (by decide) (Nat.le_of_ble_eq_true rfl) N129 g_b103 (g := (mkF mi 39 #[.val (.int x0), .val (.int x1), .val (.int x2), .val (.int x3), .val (.int x4), .val (.int (Int32.ofNat nn)), .unset, .unset, .unset, .unset, .unset] [(.int d3), (.int 3), (.ref b103), (.ref b103)])) rfl rfl (hb hby at_39)
  have c133 := CHr.keep Kq132 (sfS (Safe.arv hZ.alike f125 (by decide)) sf0) C127.1
  have C134 := CHr.trans C127 c133
  have O135 : Old Z n0 h132 := (O128.keep Kq132 (allS g_b103 all0))
  obtain ⟨v136, _, ⟨T136, L136, k136, n136⟩, -, X136, s136, gr136, ⟨Lc136, hQ136, l136, y136, z136, c136⟩, st136⟩ := callSS X132 hx (y := mn47) hown (mvT hZ (wd6 hw)) (mvT hZ (wd7 hw)) (mvT hZ (wd4 hw)) (mvT hZ (wd8 hw)) (by decide) (backOfSH (W := 0) (rm_mak la Z a0 hw [] b103 k103 nn d0 d1 d2 d3 zc h132 n0 O135 f132 D0_ D2_ D3_ D4_ (hd0 : ¬ d0 < 0 ∧ ¬ (65535 : Int32) < d0) (hd1 : ¬ d1 < 0 ∧ ¬ (65535 : Int32) < d1) (hd2 : ¬ d2 < 0 ∧ ¬ (65535 : Int32) < d2) (hd3 : ¬ d3 < 0 ∧ ¬ (65535 : Int32) < d3) (hn4 : nn ≤ 4) (hzc : ¬ (zc = (0 : Int32)))) hZ (wd8 hw) (wd4 hw) (by decide) (by decide) hEL C134.1) (g := (mkF mi 46 #[.val (.int x0), .val (.int x1), .val (.int x2), .val (.int x3), .val (.int x4), .val (.int (Int32.ofNat nn)), .val (.ref b103), .unset, .unset, .unset, .unset] [(.int (Int32.ofNat nn)), (.ref b103)])) rfl (by rw [hml]; rfl) (argsL := [(.ref b103), (.int (Int32.ofNat nn))]) (rest := []) (lenOf pd_30 rfl) rfl (Nat.le_of_ble_eq_true rfl) (hb hby at_46) (fun _ _ => ⟨rfl, e132, (by decide : 1 + 6 ≤ _), (by decide : 4 + 20 ≤ _)⟩)
  dsimp only [Pt.U, Pt.locs, Pt.cells, Pt.slots] at X136 s136 gr136 l136 y136 z136 c136 st136 hQ136
  subst l136 y136 z136
  obtain ⟨X136, hS, hZ, hown⟩ := rebS hS (show _ ≤ T132.heap.size by rw [e132]; exact (Nat.le_trans hk (Nat.le_trans (Nat.le_trans (Nat.le_trans (Nat.le_trans E103.1 Kq111.1) Kq118.1) Kq125.1) Kq132.1))) X136 s136 gr136 hZ hown
  have hk : T136.heap.size ≤ T136.heap.size := Nat.le_refl _
  obtain ⟨y_136, u_136, rfl, Nq136, Kq136, r136_0⟩ := hQ136
  have N136 := Fr.app N132 Nq136
  have C137 := CHr.trans C134 c136
  have O138 : Old Z n0 T136.heap := (O135.keep Kq136 all0)
  obtain ⟨v139, _, ⟨T139, L139, k139, n139⟩, -, X139, s139, gr139, ⟨Lc139, hQ139, l139, y139, z139, c139⟩, st139⟩ := callSS X136 hx (y := mn50) hown (mvT hZ (wd30 hw)) (mvT hZ (wd31 hw)) (mvT hZ (wd32 hw)) (mvT hZ (wd33 hw)) (by decide) (backOfSH (W := 0) (rm_csm la Z a0 hw [] y_136 u_136 (([d0, d1, d2, d3] : List Int32).take nn) zc fm T136.heap n0 O138 r136_0 D0_ D1_ D2_ D3_ D4_ ((List.length_take_le' _ _) : (([d0, d1, d2, d3] : List Int32).take nn).length ≤ 4) (hzc : ¬ (zc = (0 : Int32))) (hfm : fm.isRef = true)) hZ (wd33 hw) (wd32 hw) (by decide) (by decide) hEL C137.1) (g := (mkF mi 53 #[.val (.int x0), .val (.int x1), .val (.int x2), .val (.int x3), .val (.int x4), .val (.int (Int32.ofNat nn)), .val (.ref b103), .val (.ref y_136), .unset, .unset, .unset] [(.ref y_136)])) rfl (by rw [hml]; rfl) (argsL := [(.ref y_136)]) (rest := []) (lenOf pd_31 rfl) rfl (Nat.le_of_ble_eq_true rfl) (hb hby at_53) (fun _ _ => ⟨rfl, rfl, (by decide : 7 + 3 ≤ _), (by decide : 24 + 16 ≤ _)⟩)
  dsimp only [Pt.U, Pt.locs, Pt.cells, Pt.slots] at X139 s139 gr139 l139 y139 z139 c139 st139 hQ139
  subst l139 y139 z139
  obtain ⟨X139, hS, hZ, hown⟩ := rebS hS (show _ ≤ T136.heap.size from hk) X139 s139 gr139 hZ hown
  have hk : T139.heap.size ≤ T139.heap.size := Nat.le_refl _
  obtain ⟨y_139, u_139, rfl, Nq139, Kq139, r139_0⟩ := hQ139
  have N139 := Fr.app N136 Nq139
  have C140 := CHr.trans C137 c139
  have O141 : Old Z n0 T139.heap := (O138.keep Kq139 all0)
  have f142 : Arv Z T139.heap b103 k103 .char (4 : Int32) [(.int d0), (.int d1), (.int d2), (.int d3)] (.int 0) := ((f132.keep Kq136 nin0).keep Kq139 nin0)
  obtain ⟨v143, _, ⟨T143, L143, k143, n143⟩, -, X143, ⟨Lc143, hQ143, l143, y143, z143⟩, st143⟩ := Jvm.LawKit.callS X139 hx (y := mn48) hown (mvT hZ (wd74 hw)) (mvT hZ (wd75 hw)) (mvT hZ (wd4 hw)) (mvT hZ (wd76 hw)) (by decide) (backOf (W := 0) (rm_fhX la Z a0 hw [] b103 k103 nn d0 d1 d2 d3 T139.heap n0 O141 f142 (hn4 : nn ≤ 4)) hZ (wd76 hw) (wd4 hw) (by decide) (by decide)) (g := (mkF mi 62 #[.val (.int x0), .val (.int x1), .val (.int x2), .val (.int x3), .val (.int x4), .val (.int (Int32.ofNat nn)), .val (.ref b103), .val (.ref y_136), .val (.ref y_139), .unset, .unset] [(.int (Int32.ofNat nn)), (.ref b103)])) rfl (by rw [hml]; rfl) (argsL := [(.ref b103), (.int (Int32.ofNat nn))]) (rest := []) (lenOf pd_32 rfl) rfl (Nat.le_of_ble_eq_true rfl) (hb hby at_62) (fun _ _ => ⟨rfl, rfl, (by decide : 10 + 0 ≤ _), (by decide : 40 + 0 ≤ _)⟩)
  dsimp only [Pt.U, Pt.locs, Pt.cells, Pt.slots] at X143 l143 y143 z143 st143 hQ143
  subst l143 y143 z143
  obtain ⟨rfl, Nq143, ek143⟩ := hQ143
  have N143 := Fr.app N139 Nq143
  have pre144 : ∀ tt, SP pg ev below (T143.setTop (mkF mi 67 #[.val (.int x0), .val (.int x1), .val (.int x2), .val (.int x3), .val (.int x4), .val (.int (Int32.ofNat nn)), .val (.ref b103), .val (.ref y_136), .val (.ref y_139), .val (.int (ixG 0 (([d0, d1, d2, d3] : List Int32).take nn))), .unset] [])) tt → SP pg ev below (s₁.setTop (entryFrame mi #[(.int x0), (.int x1), (.int x2), (.int x3), (.int x4)] maxLocals)) tt := fun tt kk => pre131 _ (by
    show SP pg ev below (T129.setTop (mkF mi 39 #[.val (.int x0), .val (.int x1), .val (.int x2), .val (.int x3), .val (.int x4), .val (.int (Int32.ofNat nn)), .unset, .unset, .unset, .unset, .unset] [(.int d3), (.int 3), (.ref b103), (.ref b103)])) _
    refine st132 _ ?_
    refine XS.astore X132.here hx rfl (hb hby at_40) rfl rfl (l' := #[.val (.int x0), .val (.int x1), .val (.int x2), .val (.int x3), .val (.int x4), .val (.int (Int32.ofNat nn)), .val (.ref b103), .unset, .unset, .unset, .unset]) rfl ?_
    refine XS.aload X132.here hx rfl (hb hby at_42) rfl rfl ?_
    refine XS.iload X132.here hx rfl (hb hby at_44) rfl ?_
    refine st136.trans ?_
    refine XS.astore X136.here hx rfl (hb hby at_49) rfl rfl (l' := #[.val (.int x0), .val (.int x1), .val (.int x2), .val (.int x3), .val (.int x4), .val (.int (Int32.ofNat nn)), .val (.ref b103), .val (.ref y_136), .unset, .unset, .unset]) rfl ?_
    refine XS.aload X136.here hx rfl (hb hby at_51) rfl rfl ?_
    refine st139.trans ?_
    refine XS.astore X139.here hx rfl (hb hby at_56) rfl rfl (l' := #[.val (.int x0), .val (.int x1), .val (.int x2), .val (.int x3), .val (.int x4), .val (.int (Int32.ofNat nn)), .val (.ref b103), .val (.ref y_136), .val (.ref y_139), .unset, .unset]) rfl ?_
    refine XS.aload X139.here hx rfl (hb hby at_58) rfl rfl ?_
    refine XS.iload X139.here hx rfl (hb hby at_60) rfl ?_
    refine st143 _ ?_
    refine XS.istore X143.here hx rfl (hb hby at_65) rfl (l' := #[.val (.int x0), .val (.int x1), .val (.int x2), .val (.int x3), .val (.int x4), .val (.int (Int32.ofNat nn)), .val (.ref b103), .val (.ref y_136), .val (.ref y_139), .val (.int (ixG 0 (([d0, d1, d2, d3] : List Int32).take nn))), .unset]) rfl ?_
    exact kk)
  have pre146 : ∀ tt, SP pg ev below (T143.setTop (mkF mi 80 #[.val (.int x0), .val (.int x1), .val (.int x2), .val (.int x3), .val (.int x4), .val (.int (Int32.ofNat nn)), .val (.ref b103), .val (.ref y_136), .val (.ref y_139), .val (.int (ixG 0 (([d0, d1, d2, d3] : List Int32).take nn))), .unset] [(.int (if (ixG 0 (([d0, d1, d2, d3] : List Int32).take nn)) < (0 : Int32) then (0 : Int32) else ((ixG 0 (([d0, d1, d2, d3] : List Int32).take nn)) + (1 : Int32))))])) tt → SP pg ev below (s₁.setTop (entryFrame mi #[(.int x0), (.int x1), (.int x2), (.int x3), (.int x4)] maxLocals)) tt := fun tt kk => pre144 _ (by
    show SP pg ev below (T143.setTop (mkF mi 67 #[.val (.int x0), .val (.int x1), .val (.int x2), .val (.int x3), .val (.int x4), .val (.int (Int32.ofNat nn)), .val (.ref b103), .val (.ref y_136), .val (.ref y_139), .val (.int (ixG 0 (([d0, d1, d2, d3] : List Int32).take nn))), .unset] [])) _
    refine XS.iload X143.here hx rfl (hb hby at_67) rfl ?_
    by_cases hm145 : (ixG 0 (([d0, d1, d2, d3] : List Int32).take nn)) < (0 : Int32)
    · try simp only [if_pos hm145] at kk
      show SP pg ev below (T143.setTop (mkF mi 69 #[.val (.int x0), .val (.int x1), .val (.int x2), .val (.int x3), .val (.int x4), .val (.int (Int32.ofNat nn)), .val (.ref b103), .val (.ref y_136), .val (.ref y_139), .val (.int (ixG 0 (([d0, d1, d2, d3] : List Int32).take nn))), .unset] [(.int (ixG 0 (([d0, d1, d2, d3] : List Int32).take nn)))])) _
      refine XS.ifNo X143.here hx rfl (hb hby at_69) rfl ((if0 _ _).trans (tlt hm145).2.1) ?_
      refine XS.iconst X143.here hx rfl (hb hby at_72) ?_
      refine XS.goto X143.here hx rfl (pc0 := 73) (pc' := 80) rfl (hb hby at_73) (by decide) (by decide) ?_
      exact kk
    · try simp only [if_neg hm145] at kk
      show SP pg ev below (T143.setTop (mkF mi 69 #[.val (.int x0), .val (.int x1), .val (.int x2), .val (.int x3), .val (.int x4), .val (.int (Int32.ofNat nn)), .val (.ref b103), .val (.ref y_136), .val (.ref y_139), .val (.int (ixG 0 (([d0, d1, d2, d3] : List Int32).take nn))), .unset] [(.int (ixG 0 (([d0, d1, d2, d3] : List Int32).take nn)))])) _
      refine XS.ifYes X143.here hx rfl (pc0 := 69) (pc' := 76) rfl (hb hby at_69) rfl ((if0 _ _).trans (flt hm145).2.1) (by decide) (by decide) ?_
      refine XS.iload X143.here hx rfl (hb hby at_76) rfl ?_
      refine XS.iconst X143.here hx rfl (hb hby at_78) ?_
      refine XS.iadd X143.here hx rfl (hb hby at_79) rfl ?_
      exact kk)
  obtain ⟨ff, ef, hff, hcl⟩ := own_ff (cs := (([d0, d1, d2, d3] : List Int32).take nn)) (List.length_take_le' _ _)
  have pre147 : ∀ tt, SP pg ev below (T143.setTop (mkF mi 80 #[.val (.int x0), .val (.int x1), .val (.int x2), .val (.int x3), .val (.int x4), .val (.int (Int32.ofNat nn)), .val (.ref b103), .val (.ref y_136), .val (.ref y_139), .val (.int (ixG 0 (([d0, d1, d2, d3] : List Int32).take nn))), .unset] [(.int (Int32.ofNat ff))])) tt → SP pg ev below (s₁.setTop (entryFrame mi #[(.int x0), (.int x1), (.int x2), (.int x3), (.int x4)] maxLocals)) tt := fun tt kk => pre146 tt (by rw [show (if (ixG 0 (([d0, d1, d2, d3] : List Int32).take nn)) < (0 : Int32) then (0 : Int32) else ((ixG 0 (([d0, d1, d2, d3] : List Int32).take nn)) + (1 : Int32))) = Int32.ofNat ff from ef]; exact kk)
  obtain ⟨v148, _, ⟨T148, L148, k148, n148⟩, -, X148, ⟨Lc148, hQ148, l148, y148, z148⟩, st148⟩ := Jvm.LawKit.callS X143 hx (y := mn49) hown (mvT hZ (wd77 hw)) (mvT hZ (wd78 hw)) (mvT hZ (wd4 hw)) (mvT hZ (wd79 hw)) (by decide) (backOf (W := 0) (rm_sam la Z a0 hw [] y_139 u_139 (caL (([d0, d1, d2, d3] : List Int32).take nn)) b103 k103 nn d0 d1 d2 d3 ff zc fm T139.heap n0 O141 r139_0 f142 D0_ D1_ D2_ D3_ D4_ (Nat.le_trans hff (List.length_take_le _ _) : ff ≤ nn) (hn4 : nn ≤ 4) (hcl : (caL (([d0, d1, d2, d3] : List Int32).take nn)) = (([d0, d1, d2, d3] : List Int32).take nn).drop ff) (hzc : ¬ (zc = (0 : Int32))) (hfm : fm.isRef = true)) hZ (wd79 hw) (wd4 hw) (by decide) (by decide)) (g := (mkF mi 95 #[.val (.int x0), .val (.int x1), .val (.int x2), .val (.int x3), .val (.int x4), .val (.int (Int32.ofNat nn)), .val (.ref b103), .val (.ref y_136), .val (.ref y_139), .val (.int (ixG 0 (([d0, d1, d2, d3] : List Int32).take nn))), .val (.int (Int32.ofNat ff))] [(.int (Int32.ofNat nn)), (.int (Int32.ofNat ff)), (.ref b103), (.ref y_139)])) rfl (by rw [hml]; rfl) (argsL := [(.ref y_139), (.ref b103), (.int (Int32.ofNat ff)), (.int (Int32.ofNat nn))]) (rest := []) (lenOf pd_33 rfl) rfl (Nat.le_of_ble_eq_true rfl) (hb hby at_95) (fun _ _ => ⟨rfl, ek143, (by decide : 10 + 0 ≤ _), (by decide : 40 + 0 ≤ _)⟩)
  dsimp only [Pt.U, Pt.locs, Pt.cells, Pt.slots] at X148 l148 y148 z148 st148 hQ148
  subst l148 y148 z148
  obtain ⟨rfl, Nq148, ek148⟩ := hQ148
  have N148 := Fr.app N143 Nq148
  obtain ⟨fs, hr, hrun, hended, hWe⟩ := X148.leaveW hS (show _ ≤ T148.heap.size by rw [ek148]; exact hk) (v := some (.int 1)) (fun hq => by rw [Bd.returns] at hq; cases hq)
  refine ⟨_, _, pre147 _ ?_, hrun, hended, _, _, rfl, ?_, ?_, hWe.1, hWe.2.1, hWe.2.2.1, hWe.2.2.2.mono (by decide) (by decide)⟩
  · show SP pg ev below (T143.setTop (mkF mi 80 #[.val (.int x0), .val (.int x1), .val (.int x2), .val (.int x3), .val (.int x4), .val (.int (Int32.ofNat nn)), .val (.ref b103), .val (.ref y_136), .val (.ref y_139), .val (.int (ixG 0 (([d0, d1, d2, d3] : List Int32).take nn))), .unset] [(.int (Int32.ofNat ff))])) _
    refine XS.istore X143.here hx rfl (hb hby at_80) rfl (l' := #[.val (.int x0), .val (.int x1), .val (.int x2), .val (.int x3), .val (.int x4), .val (.int (Int32.ofNat nn)), .val (.ref b103), .val (.ref y_136), .val (.ref y_139), .val (.int (ixG 0 (([d0, d1, d2, d3] : List Int32).take nn))), .val (.int (Int32.ofNat ff))]) rfl ?_
    refine XS.aload X143.here hx rfl (hb hby at_82) rfl rfl ?_
    refine XS.ifnullNo X143.here hx rfl (hb hby at_84) rfl ?_
    refine XS.aload X143.here hx rfl (hb hby at_87) rfl rfl ?_
    refine XS.aload X143.here hx rfl (hb hby at_89) rfl rfl ?_
    refine XS.iload X143.here hx rfl (hb hby at_91) rfl ?_
    refine XS.iload X143.here hx rfl (hb hby at_93) rfl ?_
    refine st148 _ ?_
    refine XS.ifNo X148.here hx rfl (hb hby at_98) rfl ((if0 _ _).trans (feq (by decide : ¬ ((1 : Int32) = (0 : Int32)))).1) ?_
    refine XS.iconst X148.here hx rfl (hb hby at_101) ?_
    refine XS.goto X148.here hx rfl (pc0 := 102) (pc' := 106) rfl (hb hby at_102) (by decide) (by decide) ?_
    show SP pg ev below (T148.setTop (mkF mi 106 #[.val (.int x0), .val (.int x1), .val (.int x2), .val (.int x3), .val (.int x4), .val (.int (Int32.ofNat nn)), .val (.ref b103), .val (.ref y_136), .val (.ref y_139), .val (.int (ixG 0 (([d0, d1, d2, d3] : List Int32).take nn))), .val (.int (Int32.ofNat ff))] [(.int 1)])) _
    exact retN X148 hx (t := .boolean) Bd.returns (by simp) (hb hby at_106) hr
  · show Q_law Z x0 x1 x2 x3 x4 zc fm hE n0 _ T148.heap _
    rw [ek148]
    exact ⟨rfl, N148⟩
  · show CHr Z ELs sb.vm sb.heap T148.vm T148.heap
    rw [hh, ek148]
    exact CHr.trans C140 (CHv.at X148 hZ hEL C140.1)
theorem own_cz {args : Array Value} {s : State} {iz : Int32} (ez : (Term.static c0_ c8_ "Z").eval args s none [] s = some (.int iz)) (h : (Jvm.Cond.not (.eq (.static c0_ c8_ "Z") (.int 0))).before args s = true) : ¬ (iz = (0 : Int32)) := fun q => by
  have h9 := not_v (Cond.before_iff.mp h)
  rw [eq_i ez (Term.int_eval (0 : Int32)) (by rw [q])] at h9
  exact absurd h9 (by simp)
theorem comes_1 {Post : Tables → Env → Array Value → State → Outcome → State → Prop} (hpost : ∀ tb e args s v u, (limb_1_1.after args s (.returned v) u = true ∧ limb_1_2.after args s (.returned v) u = true ∧ True) → ReturnedEndW s (.returned v) u (Jvm.fieldLocs frame_1_writes args s ++ Jvm.arrayLocs frame_1_arrays args s ++ Jvm.staticLocs frame_1_statics s) 32 3264 → Post tb e args s (.returned v) u) :
    ArmFor flags0 classFile x code maxLocals ret World_1 tables_1 room_1 Calls_1 rest_1 Pre_1 Post := by
  intro l hfl _ _ p e ha hcf hk s m args below hf hA hF happ hP
  obtain ⟨hcalls, hrest, hpre⟩ := hP
  obtain ⟨-, -, -, hnamed, -, -, -, hat⟩ := (Spec.applies_iff hf).mp happ
  obtain ⟨hg, hn⟩ := and_e (Cond.before_iff.mp (show (Jvm.Cond.and given_1 narrow_1).before args s = true from hpre))
  obtain ⟨hcnt, hg⟩ := and_e hg
  obtain ⟨ha0, hg⟩ := and_e hg
  obtain ⟨ha1, hg⟩ := and_e hg
  obtain ⟨ha2, hg⟩ := and_e hg
  obtain ⟨ha3, hg⟩ := and_e hg
  have ha4 := hg
  obtain ⟨w0, w1, w2, w3, w4, rfl⟩ : ∃ w0 w1 w2 w3 w4 : Value, args = #[w0, w1, w2, w3, w4] := by
    have hs : args.size = 5 := by simpa [Cond.value, given_1] using hcnt
    obtain ⟨L⟩ := args
    match L, hs with
    | [w0, w1, w2, w3, w4], _ => exact ⟨w0, w1, w2, w3, w4, rfl⟩
  have hw := fun d (hd : d ∈ tables_1) => atoms_spec (ws := Cond.code x code maxLocals ret :: tables_1) hat d (List.mem_cons_of_mem _ hd)
  have hfit : Fit s := fun {y c} hc i hi => by
    obtain ⟨ha, rfl⟩ := Array.getElem?_eq_some_iff.mp hc
    have q := List.all_eq_true.mp ((Array.all_eq_true_iff_forall_mem.mp hF) _ (Array.getElem_mem ha)) i (List.mem_range.mpr hi)
    simpa [Array.getElem?_eq_getElem hi] using q
  obtain ⟨hsets, hown0⟩ := atoms_of _ (rest_1_c_eq ▸ (show rest_1_c.before _ s = true from hrest))
  obtain ⟨i0, ei0⟩ := is_v ha0
  obtain rfl : w0 = (.int i0) := Option.some.inj ei0
  obtain ⟨i1, ei1⟩ := is_v ha1
  obtain rfl : w1 = (.int i1) := Option.some.inj ei1
  obtain ⟨i2, ei2⟩ := is_v ha2
  obtain rfl : w2 = (.int i2) := Option.some.inj ei2
  obtain ⟨i3, ei3⟩ := is_v ha3
  obtain rfl : w3 = (.int i3) := Option.some.inj ei3
  obtain ⟨i4, ei4⟩ := is_v ha4
  obtain rfl : w4 = (.int i4) := Option.some.inj ei4
  have hset := fun i (c : Jvm.Cond) (h : jdkStatics_1[i]? = some c) => hsets c (List.mem_of_getElem? h)
  obtain ⟨iz, ez⟩ := is_v (Cond.before_iff.mp (hset 1 _ rfl))
  have sz := Sta.start ez (Or.inl (hset 0 _ rfl))
  have hz : ¬ (iz = (0 : Int32)) := own_cz ez (hset 2 _ rfl)
  obtain ⟨vf, ef, rf⟩ := isR_v (Cond.before_iff.mp (hset 8 _ rfl))
  have sf := Sta.start ef (Or.inl (hset 7 _ rfl))
  have sa := Sta.start (Cond.eq_int (hset 12 _ rfl) rfl) (Or.inl (hset 11 _ rfl))
  have sh := Sta.start (Cond.eq_int (hset 15 _ rfl) rfl) (Or.inl (hset 14 _ rfl))
  have sl := Sta.start (Cond.eq_int (hset 18 _ rfl) rfl) (Or.inl (hset 17 _ rfl))
  have hCH : CHv s ELs s.vm s.heap := CHv.start (own_EW hw) (fun p hp => hcalls.1 p ((by decide : ∀ p ∈ ELs, p ∈ consts_1) p hp)) (hset 2 _ rfl) (wd23 hw) (wd10 hw)
  obtain ⟨n, o, h1, h2, h3, _, L, rfl, ⟨rfl, N⟩, -, hq⟩ := rm_law l s _ hw tables_1 i0 i1 i2 i3 i4 iz vf s.heap s.heap.size (Old.start s) sz sf sa sh sl hz rf p e ha hcf hk s m _ below hf ((Spec.applies_iff_loose hf).mp happ).1 ⟨rfl, State.Warmed39.refl s, rfl, hCH⟩ trivial
  refine ⟨n, _, h1, h2, h3, hpost _ _ _ _ _ _ ⟨Cond.after_iff.mpr rfl, Cond.after_iff.mpr (eq_i res_at (Term.int_eval (1)) rfl), trivial⟩ ⟨hq.1, hq.2.1, hq.2.2.1, (hq.2.2.2.sift fun y hy => Or.inr (N y hy)).mono (by decide) (by decide)⟩⟩
theorem main_1_1 : Claimed_1_1 := comes_1 fun _ _ _ _ _ _ h hF => ⟨h.1, hF⟩
theorem main_1_2 : Claimed_1_2 := comes_1 fun _ _ _ _ _ _ h hF => ⟨h.2.1, hF⟩

end Jvm.Pilot.@@N@@
namespace Jvm.Pilot.@@N@@
open Jvm Jvm.ClassFile Sem Op Lib Jvm.Free Jvm.Stand Jvm.Pilot.@@N@@.Jvm.D
/-! MADE BY PROGRAM (witnessworld.py) out of the Statement's table words and the real class files: 24 classes; the members and pool entries that the words name. The judged class is class 1, her method 1. -/
namespace start1
open Jvm.ClassFile
def u (s : String) : CpInfo := .utf8 (stringToUtf16 s)
/-- a pool by its gaps: so many unusable entries, then the entry; so many at the end -/
def gap : Nat → List CpInfo → List CpInfo
  | 0, r => r
  | n + 1, r => .unusable :: gap n r
def poolList (es : List (Nat × CpInfo)) (last : Nat) : List CpInfo := es.foldr (fun e r => gap e.1 (e.2 :: r)) (gap last [])
def pool (es : List (Nat × CpInfo)) (last : Nat) : Array CpInfo := ⟨poolList es last⟩
def fileOf (pool : Array CpInfo) (this : Nat) (attrs : Array Attribute := #[]) (ms : Array MethodInfo := #[]) (fl : Nat := 33) (sup : Nat := 0) (ifs : Array Nat := #[]) (fds : Array FieldInfo := #[]) : ClassFile where
  minorVersion := 0
  majorVersion := 65
  constantPool := pool
  accessFlags := fl
  thisClass := this
  superClass := sup
  interfaces := ifs
  fields := fds
  methods := ms
  attributes := attrs
def plain (name : String) (sup : Option ClassId) : Class where
  name := name
  kind := .ordinary
  loader := none
  accessFlags := 33
  super := sup
  interfaces := #[]
  cf := none
  fields := #[]
  methods := #[]
  instanceTypes := #[]
  staticTypes := #[]
  resolved := #[]
  callSites := []
  init := .initialized
  statics := none
  mirror := none

def pool0 : Array CpInfo := pool [(5, u "<init>"), (0, u "()V"), (1, .class_ 10), (1, u "java/lang/Object")] 113

def k0c0 : Code := { maxStack := 0, maxLocals := 1, code := object_method_1_code, exceptionTable := #[], attributes := #[] }
def k0m0 : Method := { name := "<init>", desc := "()V", sig := { parameters := [], returnType := none }, accessFlags := 1, code := some k0c0 }
/-- java/lang/Object -/
def k0 : Class := { plain "java/lang/Object" none with
  accessFlags := 33
  interfaces := #[]
  cf := some (fileOf pool0 8 #[] #[{ accessFlags := 1, nameIndex := 5, descriptorIndex := 6, attributes := #[] }] 33 0 #[] #[])
  fields := #[]
  methods := #[k0m0]
  instanceTypes := #[]
  staticTypes := #[]
  resolved := Array.replicate 124 none
  statics := none }

def pool1 : Array CpInfo := pool [(2, .class_ 4), (1, u "java/lang/Object"), (0, u "<init>"), (0, u "()V"), (0, .integer 2147483647), (0, .methodref 9 10), (0, .class_ 11), (0, .nameAndType 12 13), (0, u "com/example/detangle/detangle/TestListCaseNamePinLaw"), (0, u "draw"), (0, u "(I)C"), (0, .methodref 9 15), (0, .nameAndType 16 17), (0, u "make"), (0, u "([CI)Ljava/lang/String;"), (0, .methodref 19 20), (0, .class_ 21), (0, .nameAndType 22 23), (0, u "com/example/detangle/detangle/TestList"), (0, u "caseName"), (0, u "(Ljava/lang/String;)Ljava/lang/String;"), (0, .methodref 9 25), (0, .nameAndType 26 27), (0, u "firstHash"), (0, u "([CI)I"), (0, .methodref 9 29), (0, .nameAndType 30 31), (0, u "same"), (0, u "(Ljava/lang/String;[CII)Z"), (0, .integer 65535), (0, .class_ 34), (0, u "java/lang/String"), (0, .methodref 33 36), (0, .nameAndType 5 37), (0, u "([C)V"), (0, .methodref 33 39), (0, .nameAndType 40 41), (0, u "length"), (0, u "()I"), (0, .methodref 33 43), (0, .nameAndType 44 13), (0, u "charAt"), (2, u "law"), (0, u "(IIIII)Z")] 5

def k1m0 : Method := { name := "<init>", desc := "()V", sig := { parameters := [], returnType := none }, accessFlags := 1, code := none }
def k1c1 : Code := { maxStack := 4, maxLocals := 11, code := code, exceptionTable := #[], attributes := #[] }
def k1m1 : Method := { name := "law", desc := "(IIIII)Z", sig := { parameters := [.int, .int, .int, .int, .int], returnType := some .boolean }, accessFlags := 9, code := some k1c1 }
def k1c2 : Code := { maxStack := 2, maxLocals := 1, code := method_3_code, exceptionTable := #[], attributes := #[] }
def k1m2 : Method := { name := "draw", desc := "(I)C", sig := { parameters := [.int], returnType := some .char }, accessFlags := 10, code := some k1c2 }
def k1c3 : Code := { maxStack := 7, maxLocals := 2, code := method_4_code, exceptionTable := #[], attributes := #[] }
def k1m3 : Method := { name := "make", desc := "([CI)Ljava/lang/String;", sig := { parameters := [(.array .char), .int], returnType := some (.object "java/lang/String") }, accessFlags := 10, code := some k1c3 }
def k1c4 : Code := { maxStack := 2, maxLocals := 2, code := method_5_code, exceptionTable := #[], attributes := #[] }
def k1m4 : Method := { name := "firstHash", desc := "([CI)I", sig := { parameters := [(.array .char), .int], returnType := some .int }, accessFlags := 10, code := some k1c4 }
def k1c5 : Code := { maxStack := 4, maxLocals := 5, code := method_6_code, exceptionTable := #[], attributes := #[] }
def k1m5 : Method := { name := "same", desc := "(Ljava/lang/String;[CII)Z", sig := { parameters := [(.object "java/lang/String"), (.array .char), .int, .int], returnType := some .boolean }, accessFlags := 10, code := some k1c5 }
/-- com/example/detangle/detangle/TestListCaseNamePinLaw -/
def k1 : Class := { plain "com/example/detangle/detangle/TestListCaseNamePinLaw" (some 0) with
  accessFlags := 49
  interfaces := #[]
  cf := some (fileOf pool1 9 #[] #[{ accessFlags := 1, nameIndex := 5, descriptorIndex := 6, attributes := #[] }, { accessFlags := 9, nameIndex := 47, descriptorIndex := 48, attributes := #[] }, { accessFlags := 10, nameIndex := 12, descriptorIndex := 13, attributes := #[] }, { accessFlags := 10, nameIndex := 16, descriptorIndex := 17, attributes := #[] }, { accessFlags := 10, nameIndex := 26, descriptorIndex := 27, attributes := #[] }, { accessFlags := 10, nameIndex := 30, descriptorIndex := 31, attributes := #[] }] 49 2 #[] #[])
  fields := #[]
  methods := #[k1m0, k1m1, k1m2, k1m3, k1m4, k1m5]
  instanceTypes := #[]
  staticTypes := #[]
  resolved := Array.replicate 54 none
  statics := none }

def pool2 : Array CpInfo := pool [(1, .class_ 2), (0, u "java/io/Serializable"), (0, .class_ 4), (0, u "java/lang/Object")] 2

/-- java/io/Serializable -/
def k2 : Class := { plain "java/io/Serializable" (some 0) with
  accessFlags := 1537
  interfaces := #[]
  cf := some (fileOf pool2 1 #[] #[] 1537 3 #[] #[])
  fields := #[]
  methods := #[]
  instanceTypes := #[]
  staticTypes := #[]
  resolved := Array.replicate 7 none
  statics := none }

def pool3 : Array CpInfo := pool [(1, .class_ 2), (0, u "java/lang/Comparable"), (0, .class_ 4), (0, u "java/lang/Object")] 7

/-- java/lang/Comparable -/
def k3 : Class := { plain "java/lang/Comparable" (some 0) with
  accessFlags := 1537
  interfaces := #[]
  cf := some (fileOf pool3 1 #[] #[] 1537 3 #[] #[])
  fields := #[]
  methods := #[]
  instanceTypes := #[]
  staticTypes := #[]
  resolved := Array.replicate 12 none
  statics := none }

def pool4 : Array CpInfo := pool [(2, .class_ 4), (1, u "java/lang/CharSequence"), (42, .class_ 48), (0, u "java/lang/CharSequence$1CodePointIterator"), (10, .class_ 60), (0, u "java/lang/CharSequence$1CharIterator"), (5, .class_ 67), (0, u "java/lang/Object")] 63

/-- java/lang/CharSequence -/
def k4 : Class := { plain "java/lang/CharSequence" (some 0) with
  accessFlags := 1537
  interfaces := #[]
  cf := some (fileOf pool4 2 #[.nestMembers #[47, 59]] #[] 1537 66 #[] #[])
  fields := #[]
  methods := #[]
  instanceTypes := #[]
  staticTypes := #[]
  resolved := Array.replicate 131 none
  statics := none }

def pool5 : Array CpInfo := pool [(1, .class_ 2), (0, u "java/lang/constant/Constable"), (0, .class_ 4), (0, u "java/lang/Object")] 6

/-- java/lang/constant/Constable -/
def k5 : Class := { plain "java/lang/constant/Constable" (some 0) with
  accessFlags := 1537
  interfaces := #[]
  cf := some (fileOf pool5 1 #[] #[] 1537 3 #[] #[])
  fields := #[]
  methods := #[]
  instanceTypes := #[]
  staticTypes := #[]
  resolved := Array.replicate 11 none
  statics := none }

def pool6 : Array CpInfo := pool [(1, .class_ 2), (0, u "java/lang/constant/ConstantDesc"), (0, .class_ 4), (0, u "java/lang/Object")] 32

/-- java/lang/constant/ConstantDesc -/
def k6 : Class := { plain "java/lang/constant/ConstantDesc" (some 0) with
  accessFlags := 1537
  interfaces := #[]
  cf := some (fileOf pool6 1 #[] #[] 1537 3 #[] #[])
  fields := #[]
  methods := #[]
  instanceTypes := #[]
  staticTypes := #[]
  resolved := Array.replicate 37 none
  statics := none }

def pool7 : Array CpInfo := pool [(1, .methodref 2 3), (0, .class_ 4), (0, .nameAndType 5 6), (0, u "java/lang/Object"), (0, u "<init>"), (0, u "()V"), (0, .string 8), (0, u ""), (0, .fieldref 10 11), (0, .class_ 12), (0, .nameAndType 13 14), (0, u "java/lang/String"), (0, u "value"), (0, u "[B"), (0, .fieldref 10 16), (0, .nameAndType 17 18), (0, u "coder"), (0, u "B"), (2, u "hash"), (0, u "I"), (2, u "hashIsZero"), (0, u "Z"), (0, .methodref 10 28), (0, .nameAndType 5 29), (0, u "([CIILjava/lang/Void;)V"), (6, u "checkBoundsOffCount"), (0, u "(III)I"), (0, .fieldref 10 39), (0, .nameAndType 40 26), (0, u "COMPACT_STRINGS"), (1, .class_ 44), (1, u "java/lang/StringUTF16"), (0, u "compress"), (1, .methodref 42 48), (0, .nameAndType 49 50), (0, u "coderFromArrayLen"), (0, u "([BI)B"), (56, .class_ 109), (1, u "java/lang/StringLatin1"), (32, u "()Z"), (34, .methodref 42 178), (0, .nameAndType 45 179), (0, u "([CII)[B"), (31, u "([BB)V"), (122, u "()I"), (0, .methodref 10 336), (0, .nameAndType 17 337), (0, u "()B"), (25, u "([BI)C"), (27, u "(II)V"), (35, u "(I)C"), (64, .methodref 10 493), (0, .nameAndType 494 142), (0, u "isLatin1"), (0, .methodref 107 496), (0, .nameAndType 497 363), (0, u "charAt"), (0, .methodref 42 496), (2, u "checkIndex"), (3, .methodref 10 506), (0, .nameAndType 507 334), (0, u "length"), (5, u "checkFromToIndex"), (7, .methodref 10 522), (0, .nameAndType 523 524), (0, u "checkBoundsBeginEnd"), (0, u "(III)V"), (50, .class_ 576), (0, u "java/lang/CharSequence"), (22, u "CASE_INSENSITIVE_ORDER"), (0, u "Ljava/util/Comparator;"), (32, .methodref 10 634), (0, .nameAndType 635 636), (0, u "indexOf"), (0, u "(II)I"), (0, .methodref 107 638), (0, .nameAndType 635 639), (0, u "([BIII)I"), (0, .methodref 42 638), (40, .methodref 10 682), (0, .nameAndType 683 684), (0, u "substring"), (0, u "(II)Ljava/lang/String;"), (0, .methodref 107 686), (0, .nameAndType 687 688), (0, u "newString"), (0, u "([BII)Ljava/lang/String;"), (0, .methodref 42 686), (75, u "(I)I"), (126, u "(I)Ljava/lang/String;"), (117, u "([C)V"), (42, .fieldref 1054 1055), (0, .class_ 1056), (0, .nameAndType 1057 1058), (0, u "jdk/internal/util/Preconditions"), (0, u "SIOOBE_FORMATTER"), (0, u "Ljava/util/function/BiFunction;"), (0, .methodref 1054 1060), (0, .nameAndType 501 1061), (0, u "(IILjava/util/function/BiFunction;)I"), (0, .methodref 1054 1063), (0, .nameAndType 513 1064), (0, u "(IIILjava/util/function/BiFunction;)I"), (0, .methodref 1054 1066), (0, .nameAndType 1067 1064), (0, u "checkFromIndexSize"), (33, u "serialPersistentFields"), (0, u "[Ljava/io/ObjectStreamField;"), (0, .class_ 1104), (0, u "java/lang/String$CaseInsensitiveComparator"), (1, .class_ 1107), (0, u "java/io/Serializable"), (0, .class_ 1109), (0, u "java/lang/Comparable"), (0, .class_ 1111), (0, u "java/lang/constant/Constable"), (0, .class_ 1113), (0, u "java/lang/constant/ConstantDesc"), (2, u "serialVersionUID"), (0, u "J"), (3, u "REPL"), (0, u "C"), (2, u "LATIN1"), (1, u "UTF16")] 323

def k7m0 : Method := { name := "<init>", desc := "()V", sig := { parameters := [], returnType := none }, accessFlags := 1, code := none }
def k7c1 : Code := { maxStack := 5, maxLocals := 2, code := jdk_42_method_3_code, exceptionTable := #[], attributes := #[] }
def k7m1 : Method := { name := "<init>", desc := "([C)V", sig := { parameters := [(.array .char)], returnType := none }, accessFlags := 1, code := some k7c1 }
def k7c2 : Code := { maxStack := 2, maxLocals := 1, code := jdk_42_method_54_code, exceptionTable := #[], attributes := #[] }
def k7m2 : Method := { name := "length", desc := "()I", sig := { parameters := [], returnType := some .int }, accessFlags := 1, code := some k7c2 }
def k7c3 : Code := { maxStack := 2, maxLocals := 2, code := jdk_42_method_56_code, exceptionTable := #[], attributes := #[] }
def k7m3 : Method := { name := "charAt", desc := "(I)C", sig := { parameters := [.int], returnType := some .char }, accessFlags := 1, code := some k7c3 }
def k7c4 : Code := { maxStack := 3, maxLocals := 2, code := jdk_42_method_79_code, exceptionTable := #[], attributes := #[] }
def k7m4 : Method := { name := "indexOf", desc := "(I)I", sig := { parameters := [.int], returnType := some .int }, accessFlags := 1, code := some k7c4 }
def k7c5 : Code := { maxStack := 4, maxLocals := 3, code := jdk_42_method_80_code, exceptionTable := #[], attributes := #[] }
def k7m5 : Method := { name := "indexOf", desc := "(II)I", sig := { parameters := [.int, .int], returnType := some .int }, accessFlags := 1, code := some k7c5 }
def k7c6 : Code := { maxStack := 3, maxLocals := 2, code := jdk_42_method_91_code, exceptionTable := #[], attributes := #[] }
def k7m6 : Method := { name := "substring", desc := "(I)Ljava/lang/String;", sig := { parameters := [.int], returnType := some (.object "java/lang/String") }, accessFlags := 1, code := some k7c6 }
def k7c7 : Code := { maxStack := 3, maxLocals := 5, code := jdk_42_method_92_code, exceptionTable := #[], attributes := #[] }
def k7m7 : Method := { name := "substring", desc := "(II)Ljava/lang/String;", sig := { parameters := [.int, .int], returnType := some (.object "java/lang/String") }, accessFlags := 1, code := some k7c7 }
def k7c8 : Code := { maxStack := 4, maxLocals := 6, code := jdk_42_method_149_code, exceptionTable := #[], attributes := #[] }
def k7m8 : Method := { name := "<init>", desc := "([CIILjava/lang/Void;)V", sig := { parameters := [(.array .char), .int, .int, (.object "java/lang/Void")], returnType := none }, accessFlags := 2, code := some k7c8 }
def k7c9 : Code := { maxStack := 2, maxLocals := 3, code := jdk_42_method_151_code, exceptionTable := #[], attributes := #[] }
def k7m9 : Method := { name := "<init>", desc := "([BB)V", sig := { parameters := [(.array .byte), .byte], returnType := none }, accessFlags := 0, code := some k7c9 }
def k7c10 : Code := { maxStack := 1, maxLocals := 1, code := jdk_42_method_152_code, exceptionTable := #[], attributes := #[] }
def k7m10 : Method := { name := "coder", desc := "()B", sig := { parameters := [], returnType := some .byte }, accessFlags := 0, code := some k7c10 }
def k7c11 : Code := { maxStack := 1, maxLocals := 1, code := jdk_42_method_154_code, exceptionTable := #[], attributes := #[] }
def k7m11 : Method := { name := "isLatin1", desc := "()Z", sig := { parameters := [], returnType := some .boolean }, accessFlags := 0, code := some k7c11 }
def k7c12 : Code := { maxStack := 3, maxLocals := 2, code := jdk_42_method_155_code, exceptionTable := #[], attributes := #[] }
def k7m12 : Method := { name := "checkIndex", desc := "(II)V", sig := { parameters := [.int, .int], returnType := none }, accessFlags := 8, code := some k7c12 }
def k7c13 : Code := { maxStack := 4, maxLocals := 3, code := jdk_42_method_157_code, exceptionTable := #[], attributes := #[] }
def k7m13 : Method := { name := "checkBoundsOffCount", desc := "(III)I", sig := { parameters := [.int, .int, .int], returnType := some .int }, accessFlags := 8, code := some k7c13 }
def k7c14 : Code := { maxStack := 4, maxLocals := 3, code := jdk_42_method_158_code, exceptionTable := #[], attributes := #[] }
def k7m14 : Method := { name := "checkBoundsBeginEnd", desc := "(III)V", sig := { parameters := [.int, .int, .int], returnType := none }, accessFlags := 8, code := some k7c14 }
/-- java/lang/String -/
def k7 : Class := { plain "java/lang/String" (some 0) with
  accessFlags := 49
  interfaces := #[2, 3, 4, 5, 6]
  cf := some (fileOf pool7 10 #[.nestMembers #[1103]] #[{ accessFlags := 1, nameIndex := 5, descriptorIndex := 6, attributes := #[] }, { accessFlags := 1, nameIndex := 5, descriptorIndex := 1010, attributes := #[] }, { accessFlags := 1, nameIndex := 507, descriptorIndex := 334, attributes := #[] }, { accessFlags := 1, nameIndex := 497, descriptorIndex := 427, attributes := #[] }, { accessFlags := 1, nameIndex := 635, descriptorIndex := 765, attributes := #[] }, { accessFlags := 1, nameIndex := 635, descriptorIndex := 636, attributes := #[] }, { accessFlags := 1, nameIndex := 683, descriptorIndex := 892, attributes := #[] }, { accessFlags := 1, nameIndex := 683, descriptorIndex := 684, attributes := #[] }, { accessFlags := 2, nameIndex := 5, descriptorIndex := 29, attributes := #[] }, { accessFlags := 0, nameIndex := 5, descriptorIndex := 211, attributes := #[] }, { accessFlags := 0, nameIndex := 17, descriptorIndex := 337, attributes := #[] }, { accessFlags := 0, nameIndex := 494, descriptorIndex := 142, attributes := #[] }, { accessFlags := 8, nameIndex := 501, descriptorIndex := 391, attributes := #[] }, { accessFlags := 8, nameIndex := 36, descriptorIndex := 37, attributes := #[] }, { accessFlags := 8, nameIndex := 523, descriptorIndex := 524, attributes := #[] }] 49 2 #[1106, 1108, 575, 1110, 1112] #[{ accessFlags := 18, nameIndex := 13, descriptorIndex := 14, attributes := #[] }, { accessFlags := 18, nameIndex := 17, descriptorIndex := 18, attributes := #[] }, { accessFlags := 2, nameIndex := 21, descriptorIndex := 22, attributes := #[] }, { accessFlags := 2, nameIndex := 25, descriptorIndex := 26, attributes := #[] }, { accessFlags := 26, nameIndex := 1116, descriptorIndex := 1117, attributes := #[] }, { accessFlags := 24, nameIndex := 40, descriptorIndex := 26, attributes := #[] }, { accessFlags := 26, nameIndex := 1101, descriptorIndex := 1102, attributes := #[] }, { accessFlags := 26, nameIndex := 1121, descriptorIndex := 1122, attributes := #[] }, { accessFlags := 25, nameIndex := 599, descriptorIndex := 600, attributes := #[] }, { accessFlags := 24, nameIndex := 1125, descriptorIndex := 18, attributes := #[] }, { accessFlags := 24, nameIndex := 1127, descriptorIndex := 18, attributes := #[] }])
  fields := #[{ name := "value", type := (.array .byte), accessFlags := 18, slot := 0, constantValue := 0 }, { name := "coder", type := .byte, accessFlags := 18, slot := 1, constantValue := 0 }, { name := "hash", type := .int, accessFlags := 2, slot := 2, constantValue := 0 }, { name := "hashIsZero", type := .boolean, accessFlags := 2, slot := 3, constantValue := 0 }, { name := "serialVersionUID", type := .long, accessFlags := 26, slot := 0, constantValue := 0 }, { name := "COMPACT_STRINGS", type := .boolean, accessFlags := 24, slot := 1, constantValue := 0 }, { name := "serialPersistentFields", type := (.array (.object "java/io/ObjectStreamField")), accessFlags := 26, slot := 2, constantValue := 0 }, { name := "REPL", type := .char, accessFlags := 26, slot := 3, constantValue := 0 }, { name := "CASE_INSENSITIVE_ORDER", type := (.object "java/util/Comparator"), accessFlags := 25, slot := 4, constantValue := 0 }, { name := "LATIN1", type := .byte, accessFlags := 24, slot := 5, constantValue := 0 }, { name := "UTF16", type := .byte, accessFlags := 24, slot := 6, constantValue := 0 }]
  methods := #[k7m0, k7m1, k7m2, k7m3, k7m4, k7m5, k7m6, k7m7, k7m8, k7m9, k7m10, k7m11, k7m12, k7m13, k7m14]
  instanceTypes := #[(.array .byte), .byte, .int, .boolean]
  staticTypes := #[.long, .boolean, (.array (.object "java/io/ObjectStreamField")), .char, (.object "java/util/Comparator"), .byte, .byte]
  resolved := Array.replicate 1451 none
  statics := some 0 }

def pool8 : Array CpInfo := pool [(1, .class_ 2), (0, u "com/example/detangle/detangle/ListedTests"), (0, .class_ 4), (0, u "java/lang/Object")] 8

/-- com/example/detangle/detangle/ListedTests -/
def k8 : Class := { plain "com/example/detangle/detangle/ListedTests" (some 0) with
  accessFlags := 1536
  interfaces := #[]
  cf := some (fileOf pool8 1 #[] #[] 1536 3 #[] #[])
  fields := #[]
  methods := #[]
  instanceTypes := #[]
  staticTypes := #[]
  resolved := Array.replicate 13 none
  statics := none }

def pool9 : Array CpInfo := pool [(2, .class_ 4), (1, u "java/lang/Object"), (6, .class_ 13), (1, u "com/example/detangle/detangle/TestList"), (0, u "ids"), (0, u "Ljava/util/List;"), (5, u "listedOn"), (0, u "Ljava/util/Map;"), (2, u "file"), (0, u "Ljava/nio/file/Path;"), (19, .methodref 47 48), (0, .class_ 49), (0, .nameAndType 50 51), (0, u "java/lang/String"), (0, u "indexOf"), (0, u "(I)I"), (2, u "substring"), (1, .methodref 47 57), (0, .nameAndType 54 58), (0, u "(I)Ljava/lang/String;"), (38, u "ID"), (0, u "Ljava/util/regex/Pattern;"), (14, u "(Ljava/lang/String;)Ljava/lang/String;"), (21, .class_ 136), (0, u "com/example/detangle/detangle/ListedTests"), (0, u "COMMENT"), (0, u "Ljava/lang/String;"), (1, u "METHOD"), (0, u "C"), (12, u "caseName")] 39

def k9c0 : Code := { maxStack := 3, maxLocals := 2, code := prog_57_method_4_code, exceptionTable := #[], attributes := #[] }
def k9m0 : Method := { name := "caseName", desc := "(Ljava/lang/String;)Ljava/lang/String;", sig := { parameters := [(.object "java/lang/String")], returnType := some (.object "java/lang/String") }, accessFlags := 8, code := some k9c0 }
/-- com/example/detangle/detangle/TestList -/
def k9 : Class := { plain "com/example/detangle/detangle/TestList" (some 0) with
  accessFlags := 48
  interfaces := #[8]
  cf := some (fileOf pool9 11 #[] #[{ accessFlags := 8, nameIndex := 154, descriptorIndex := 113, attributes := #[] }] 48 2 #[135] #[{ accessFlags := 26, nameIndex := 97, descriptorIndex := 98, attributes := #[] }, { accessFlags := 26, nameIndex := 137, descriptorIndex := 138, attributes := #[] }, { accessFlags := 26, nameIndex := 140, descriptorIndex := 141, attributes := #[] }, { accessFlags := 18, nameIndex := 25, descriptorIndex := 26, attributes := #[] }, { accessFlags := 18, nameIndex := 14, descriptorIndex := 15, attributes := #[] }, { accessFlags := 18, nameIndex := 21, descriptorIndex := 22, attributes := #[] }])
  fields := #[{ name := "ID", type := (.object "java/util/regex/Pattern"), accessFlags := 26, slot := 0, constantValue := 0 }, { name := "COMMENT", type := (.object "java/lang/String"), accessFlags := 26, slot := 1, constantValue := 0 }, { name := "METHOD", type := .char, accessFlags := 26, slot := 2, constantValue := 0 }, { name := "file", type := (.object "java/nio/file/Path"), accessFlags := 18, slot := 0, constantValue := 0 }, { name := "ids", type := (.object "java/util/List"), accessFlags := 18, slot := 1, constantValue := 0 }, { name := "listedOn", type := (.object "java/util/Map"), accessFlags := 18, slot := 2, constantValue := 0 }]
  methods := #[k9m0]
  instanceTypes := #[(.object "java/nio/file/Path"), (.object "java/util/List"), (.object "java/util/Map")]
  staticTypes := #[(.object "java/util/regex/Pattern"), (.object "java/lang/String"), .char]
  resolved := Array.replicate 194 none
  statics := none }

def pool10 : Array CpInfo := pool [(1, .class_ 2), (0, u "java/lang/String"), (1, .class_ 6), (1, u "java/lang/Object"), (0, u "<init>"), (0, u "()V"), (0, .methodref 1 10), (0, .nameAndType 11 12), (0, u "checkIndex"), (0, u "(II)V"), (1, .class_ 16), (1, u "java/lang/StringLatin1"), (21, .methodref 39 40), (0, .class_ 41), (0, .nameAndType 42 43), (0, u "java/lang/Math"), (0, u "min"), (0, u "(II)I"), (9, u "([BI)C"), (34, .methodref 14 89), (0, .nameAndType 90 91), (0, u "canEncode"), (0, u "(I)Z"), (0, .methodref 39 93), (0, .nameAndType 94 43), (0, u "max"), (0, .methodref 14 96), (0, .nameAndType 97 98), (0, u "indexOfChar"), (0, u "([BIII)I"), (2, u "indexOf"), (10, .methodref 1 113), (0, .nameAndType 7 114), (0, u "([BB)V"), (6, u "$assertionsDisabled"), (0, u "Z"), (8, .class_ 133), (1, u "java/util/Arrays"), (17, .string 152), (0, u ""), (43, u "newString"), (0, u "([BII)Ljava/lang/String;"), (23, .class_ 223), (1, u "java/lang/StringLatin1$LinesSpliterator"), (8, .methodref 131 233), (0, .nameAndType 234 235), (0, u "copyOfRange"), (0, u "([BII)[B"), (16, u "charAt"), (137, .class_ 391), (0, u "java/lang/StringLatin1$CharsSpliterator")] 3

def k10m0 : Method := { name := "<init>", desc := "()V", sig := { parameters := [], returnType := none }, accessFlags := 0, code := none }
def k10c1 : Code := { maxStack := 2, maxLocals := 2, code := jdk_43_method_2_code, exceptionTable := #[], attributes := #[] }
def k10m1 : Method := { name := "charAt", desc := "([BI)C", sig := { parameters := [(.array .byte), .int], returnType := some .char }, accessFlags := 9, code := some k10c1 }
def k10c2 : Code := { maxStack := 2, maxLocals := 1, code := jdk_43_method_4_code, exceptionTable := #[], attributes := #[] }
def k10m2 : Method := { name := "canEncode", desc := "(I)Z", sig := { parameters := [.int], returnType := some .boolean }, accessFlags := 9, code := some k10c2 }
def k10c3 : Code := { maxStack := 4, maxLocals := 4, code := jdk_43_method_22_code, exceptionTable := #[], attributes := #[] }
def k10m3 : Method := { name := "indexOf", desc := "([BIII)I", sig := { parameters := [(.array .byte), .int, .int, .int], returnType := some .int }, accessFlags := 9, code := some k10c3 }
def k10c4 : Code := { maxStack := 2, maxLocals := 6, code := jdk_43_method_23_code, exceptionTable := #[], attributes := #[] }
def k10m4 : Method := { name := "indexOfChar", desc := "([BIII)I", sig := { parameters := [(.array .byte), .int, .int, .int], returnType := some .int }, accessFlags := 10, code := some k10c4 }
def k10c5 : Code := { maxStack := 6, maxLocals := 3, code := jdk_43_method_47_code, exceptionTable := #[], attributes := #[] }
def k10m5 : Method := { name := "newString", desc := "([BII)Ljava/lang/String;", sig := { parameters := [(.array .byte), .int, .int], returnType := some (.object "java/lang/String") }, accessFlags := 9, code := some k10c5 }
/-- java/lang/StringLatin1 -/
def k10 : Class := { plain "java/lang/StringLatin1" (some 0) with
  accessFlags := 48
  interfaces := #[]
  cf := some (fileOf pool10 14 #[.nestMembers #[390, 221]] #[{ accessFlags := 0, nameIndex := 7, descriptorIndex := 8, attributes := #[] }, { accessFlags := 9, nameIndex := 252, descriptorIndex := 53, attributes := #[] }, { accessFlags := 9, nameIndex := 90, descriptorIndex := 91, attributes := #[] }, { accessFlags := 9, nameIndex := 101, descriptorIndex := 98, attributes := #[] }, { accessFlags := 10, nameIndex := 97, descriptorIndex := 98, attributes := #[] }, { accessFlags := 9, nameIndex := 196, descriptorIndex := 197, attributes := #[] }] 48 4 #[] #[{ accessFlags := 4120, nameIndex := 121, descriptorIndex := 122, attributes := #[] }])
  fields := #[{ name := "$assertionsDisabled", type := .boolean, accessFlags := 4120, slot := 0, constantValue := 0 }]
  methods := #[k10m0, k10m1, k10m2, k10m3, k10m4, k10m5]
  instanceTypes := #[]
  staticTypes := #[.boolean]
  resolved := Array.replicate 395 none
  statics := none }

def pool11 : Array CpInfo := pool [(1, .class_ 2), (0, u "java/lang/Math"), (1, .class_ 6), (1, u "java/lang/Object"), (0, u "<init>"), (0, u "()V"), (89, .class_ 100), (1, u "java/lang/Math$RandomNumberGeneratorHolder"), (71, u "negativeZeroFloatBits"), (0, u "J"), (2, u "negativeZeroDoubleBits"), (21, u "max"), (2, u "min"), (43, u "$assertionsDisabled"), (0, u "Z"), (88, u "(II)I"), (2, u "twoToTheDoubleScaleDown"), (0, u "D"), (4, u "twoToTheDoubleScaleUp"), (9, u "E"), (3, u "PI"), (2, u "TAU"), (2, u "DEGREES_TO_RADIANS"), (0, u "RADIANS_TO_DEGREES")] 94

def k11m0 : Method := { name := "<init>", desc := "()V", sig := { parameters := [], returnType := none }, accessFlags := 2, code := none }
def k11c1 : Code := { maxStack := 2, maxLocals := 2, code := jdk_29_method_65_code, exceptionTable := #[], attributes := #[] }
def k11m1 : Method := { name := "max", desc := "(II)I", sig := { parameters := [.int, .int], returnType := some .int }, accessFlags := 9, code := some k11c1 }
def k11c2 : Code := { maxStack := 2, maxLocals := 2, code := jdk_29_method_69_code, exceptionTable := #[], attributes := #[] }
def k11m2 : Method := { name := "min", desc := "(II)I", sig := { parameters := [.int, .int], returnType := some .int }, accessFlags := 9, code := some k11c2 }
/-- java/lang/Math -/
def k11 : Class := { plain "java/lang/Math" (some 0) with
  accessFlags := 49
  interfaces := #[]
  cf := some (fileOf pool11 1 #[.nestMembers #[98]] #[{ accessFlags := 2, nameIndex := 7, descriptorIndex := 8, attributes := #[] }, { accessFlags := 9, nameIndex := 198, descriptorIndex := 335, attributes := #[] }, { accessFlags := 9, nameIndex := 201, descriptorIndex := 335, attributes := #[] }] 49 4 #[] #[{ accessFlags := 25, nameIndex := 354, descriptorIndex := 339, attributes := #[] }, { accessFlags := 25, nameIndex := 358, descriptorIndex := 339, attributes := #[] }, { accessFlags := 25, nameIndex := 361, descriptorIndex := 339, attributes := #[] }, { accessFlags := 26, nameIndex := 364, descriptorIndex := 339, attributes := #[] }, { accessFlags := 26, nameIndex := 365, descriptorIndex := 339, attributes := #[] }, { accessFlags := 26, nameIndex := 172, descriptorIndex := 173, attributes := #[] }, { accessFlags := 26, nameIndex := 176, descriptorIndex := 173, attributes := #[] }, { accessFlags := 8, nameIndex := 344, descriptorIndex := 339, attributes := #[] }, { accessFlags := 8, nameIndex := 338, descriptorIndex := 339, attributes := #[] }, { accessFlags := 4120, nameIndex := 245, descriptorIndex := 246, attributes := #[] }])
  fields := #[{ name := "E", type := .double, accessFlags := 25, slot := 0, constantValue := 0 }, { name := "PI", type := .double, accessFlags := 25, slot := 1, constantValue := 0 }, { name := "TAU", type := .double, accessFlags := 25, slot := 2, constantValue := 0 }, { name := "DEGREES_TO_RADIANS", type := .double, accessFlags := 26, slot := 3, constantValue := 0 }, { name := "RADIANS_TO_DEGREES", type := .double, accessFlags := 26, slot := 4, constantValue := 0 }, { name := "negativeZeroFloatBits", type := .long, accessFlags := 26, slot := 5, constantValue := 0 }, { name := "negativeZeroDoubleBits", type := .long, accessFlags := 26, slot := 6, constantValue := 0 }, { name := "twoToTheDoubleScaleUp", type := .double, accessFlags := 8, slot := 7, constantValue := 0 }, { name := "twoToTheDoubleScaleDown", type := .double, accessFlags := 8, slot := 8, constantValue := 0 }, { name := "$assertionsDisabled", type := .boolean, accessFlags := 4120, slot := 9, constantValue := 0 }]
  methods := #[k11m0, k11m1, k11m2]
  instanceTypes := #[]
  staticTypes := #[.double, .double, .double, .double, .double, .long, .long, .double, .double, .boolean]
  resolved := Array.replicate 460 none
  statics := none }

def pool12 : Array CpInfo := pool [(3, .class_ 4), (0, u "java/lang/String"), (1, .class_ 8), (1, u "java/lang/Object"), (0, u "<init>"), (0, u "()V"), (0, .methodref 12 13), (0, .class_ 14), (0, .nameAndType 15 16), (0, u "java/lang/StringUTF16"), (0, u "newBytesLength"), (0, u "(I)I"), (3, .integer 1073741823), (23, .fieldref 12 45), (0, .nameAndType 46 47), (0, u "$assertionsDisabled"), (0, u "Z"), (0, .methodref 12 49), (0, .nameAndType 50 51), (0, u "length"), (0, u "([B)I"), (7, .fieldref 12 60), (0, .nameAndType 61 62), (0, u "HI_BYTE_SHIFT"), (0, u "I"), (0, .fieldref 12 64), (0, .nameAndType 65 62), (0, u "LO_BYTE_SHIFT"), (1, .methodref 12 68), (0, .nameAndType 69 70), (0, u "checkIndex"), (0, u "(I[B)V"), (0, .methodref 12 72), (0, .nameAndType 73 74), (0, u "getChar"), (0, u "([BI)C"), (21, .methodref 12 97), (0, .nameAndType 98 99), (0, u "checkBoundsBeginEnd"), (0, u "(II[B)V"), (7, .methodref 12 108), (0, .nameAndType 109 110), (0, u "newBytesFor"), (0, u "(I)[B"), (0, .methodref 12 112), (0, .nameAndType 113 114), (0, u "putChar"), (0, u "([BII)V"), (0, .methodref 12 116), (0, .nameAndType 117 118), (0, u "compress"), (0, u "([CI[BII)I"), (0, .methodref 12 120), (0, .nameAndType 121 122), (0, u "toBytes"), (0, u "([CII)[B"), (0, .methodref 12 124), (0, .nameAndType 117 125), (0, u "([BI[BII)I"), (0, .methodref 127 128), (0, .class_ 129), (0, .nameAndType 130 131), (0, u "java/util/Arrays"), (0, u "copyOfRange"), (0, u "([BII)[B"), (41, .methodref 12 174), (0, .nameAndType 175 99), (0, u "checkBoundsOffCount"), (7, .methodref 184 185), (0, .class_ 186), (0, .nameAndType 187 188), (0, u "java/lang/Math"), (0, u "min"), (0, u "(II)I"), (35, .methodref 184 225), (0, .nameAndType 226 188), (0, u "max"), (0, .integer 65536), (0, .methodref 12 229), (0, .nameAndType 230 231), (0, u "indexOfChar"), (0, u "([BIII)I"), (9, .methodref 3 242), (0, .nameAndType 98 243), (0, u "(III)V"), (0, .methodref 12 245), (0, .nameAndType 246 231), (0, u "indexOfCharUnsafe"), (4, .fieldref 3 252), (0, .nameAndType 253 47), (0, u "COMPACT_STRINGS"), (3, .methodref 12 258), (0, .nameAndType 117 131), (0, .methodref 12 260), (0, .nameAndType 261 262), (0, u "coderFromArrayLen"), (0, u "([BI)B"), (0, .methodref 3 264), (0, .nameAndType 9 265), (0, u "([BB)V"), (2, u "indexOf"), (12, u "(III)I"), (13, .string 296), (0, u ""), (30, u "newString"), (0, u "([BII)Ljava/lang/String;"), (40, .class_ 371), (1, u "java/lang/StringUTF16$LinesSpliterator"), (20, u "charAt"), (21, .methodref 3 415), (0, .nameAndType 69 416), (0, u "(II)V"), (2, .methodref 3 420), (0, .nameAndType 175 281), (9, u "MAX_LENGTH"), (196, .class_ 628), (0, u "java/lang/StringUTF16$CodePointsSpliterator"), (0, .class_ 630), (0, u "java/lang/StringUTF16$CharsSpliterator")] 4

def k12m0 : Method := { name := "<init>", desc := "()V", sig := { parameters := [], returnType := none }, accessFlags := 0, code := none }
def k12c1 : Code := { maxStack := 1, maxLocals := 1, code := jdk_52_method_2_code, exceptionTable := #[], attributes := #[] }
def k12m1 : Method := { name := "newBytesFor", desc := "(I)[B", sig := { parameters := [.int], returnType := some (.array .byte) }, accessFlags := 9, code := some k12c1 }
def k12c2 : Code := { maxStack := 4, maxLocals := 1, code := jdk_52_method_3_code, exceptionTable := #[], attributes := #[] }
def k12m2 : Method := { name := "newBytesLength", desc := "(I)I", sig := { parameters := [.int], returnType := some .int }, accessFlags := 9, code := some k12c2 }
def k12c3 : Code := { maxStack := 4, maxLocals := 3, code := jdk_52_method_4_code, exceptionTable := #[], attributes := #[] }
def k12m3 : Method := { name := "putChar", desc := "([BII)V", sig := { parameters := [(.array .byte), .int, .int], returnType := none }, accessFlags := 8, code := some k12c3 }
def k12c4 : Code := { maxStack := 3, maxLocals := 2, code := jdk_52_method_5_code, exceptionTable := #[], attributes := #[] }
def k12m4 : Method := { name := "getChar", desc := "([BI)C", sig := { parameters := [(.array .byte), .int], returnType := some .char }, accessFlags := 8, code := some k12c4 }
def k12c5 : Code := { maxStack := 2, maxLocals := 1, code := jdk_52_method_6_code, exceptionTable := #[], attributes := #[] }
def k12m5 : Method := { name := "length", desc := "([B)I", sig := { parameters := [(.array .byte)], returnType := some .int }, accessFlags := 9, code := some k12c5 }
def k12c6 : Code := { maxStack := 4, maxLocals := 5, code := jdk_52_method_14_code, exceptionTable := #[], attributes := #[] }
def k12m6 : Method := { name := "toBytes", desc := "([CII)[B", sig := { parameters := [(.array .char), .int, .int], returnType := some (.array .byte) }, accessFlags := 9, code := some k12c6 }
def k12c7 : Code := { maxStack := 2, maxLocals := 2, code := jdk_52_method_15_code, exceptionTable := #[], attributes := #[] }
def k12m7 : Method := { name := "coderFromArrayLen", desc := "([BI)B", sig := { parameters := [(.array .byte), .int], returnType := some .byte }, accessFlags := 8, code := some k12c7 }
def k12c8 : Code := { maxStack := 5, maxLocals := 6, code := jdk_52_method_16_code, exceptionTable := #[], attributes := #[] }
def k12m8 : Method := { name := "compress", desc := "([CII)[B", sig := { parameters := [(.array .char), .int, .int], returnType := some (.array .byte) }, accessFlags := 9, code := some k12c8 }
def k12c9 : Code := { maxStack := 5, maxLocals := 6, code := jdk_52_method_17_code, exceptionTable := #[], attributes := #[] }
def k12m9 : Method := { name := "compress", desc := "([BII)[B", sig := { parameters := [(.array .byte), .int, .int], returnType := some (.array .byte) }, accessFlags := 9, code := some k12c9 }
def k12c10 : Code := { maxStack := 3, maxLocals := 7, code := jdk_52_method_21_code, exceptionTable := #[], attributes := #[] }
def k12m10 : Method := { name := "compress", desc := "([CI[BII)I", sig := { parameters := [(.array .char), .int, (.array .byte), .int, .int], returnType := some .int }, accessFlags := 9, code := some k12c10 }
def k12c11 : Code := { maxStack := 3, maxLocals := 7, code := jdk_52_method_22_code, exceptionTable := #[], attributes := #[] }
def k12m11 : Method := { name := "compress", desc := "([BI[BII)I", sig := { parameters := [(.array .byte), .int, (.array .byte), .int, .int], returnType := some .int }, accessFlags := 9, code := some k12c11 }
def k12c12 : Code := { maxStack := 4, maxLocals := 4, code := jdk_52_method_40_code, exceptionTable := #[], attributes := #[] }
def k12m12 : Method := { name := "indexOf", desc := "([BIII)I", sig := { parameters := [(.array .byte), .int, .int, .int], returnType := some .int }, accessFlags := 9, code := some k12c12 }
def k12c13 : Code := { maxStack := 4, maxLocals := 4, code := jdk_52_method_47_code, exceptionTable := #[], attributes := #[] }
def k12m13 : Method := { name := "indexOfChar", desc := "([BIII)I", sig := { parameters := [(.array .byte), .int, .int, .int], returnType := some .int }, accessFlags := 10, code := some k12c13 }
def k12c14 : Code := { maxStack := 2, maxLocals := 5, code := jdk_52_method_48_code, exceptionTable := #[], attributes := #[] }
def k12m14 : Method := { name := "indexOfCharUnsafe", desc := "([BIII)I", sig := { parameters := [(.array .byte), .int, .int, .int], returnType := some .int }, accessFlags := 10, code := some k12c14 }
def k12c15 : Code := { maxStack := 6, maxLocals := 5, code := jdk_52_method_69_code, exceptionTable := #[], attributes := #[] }
def k12m15 : Method := { name := "newString", desc := "([BII)Ljava/lang/String;", sig := { parameters := [(.array .byte), .int, .int], returnType := some (.object "java/lang/String") }, accessFlags := 9, code := some k12c15 }
def k12c16 : Code := { maxStack := 2, maxLocals := 2, code := jdk_52_method_83_code, exceptionTable := #[], attributes := #[] }
def k12m16 : Method := { name := "charAt", desc := "([BI)C", sig := { parameters := [(.array .byte), .int], returnType := some .char }, accessFlags := 9, code := some k12c16 }
def k12c17 : Code := { maxStack := 2, maxLocals := 2, code := jdk_52_method_91_code, exceptionTable := #[], attributes := #[] }
def k12m17 : Method := { name := "checkIndex", desc := "(I[B)V", sig := { parameters := [.int, (.array .byte)], returnType := none }, accessFlags := 9, code := some k12c17 }
def k12c18 : Code := { maxStack := 3, maxLocals := 3, code := jdk_52_method_93_code, exceptionTable := #[], attributes := #[] }
def k12m18 : Method := { name := "checkBoundsBeginEnd", desc := "(II[B)V", sig := { parameters := [.int, .int, (.array .byte)], returnType := none }, accessFlags := 9, code := some k12c18 }
def k12c19 : Code := { maxStack := 3, maxLocals := 3, code := jdk_52_method_94_code, exceptionTable := #[], attributes := #[] }
def k12m19 : Method := { name := "checkBoundsOffCount", desc := "(II[B)V", sig := { parameters := [.int, .int, (.array .byte)], returnType := none }, accessFlags := 9, code := some k12c19 }
/-- java/lang/StringUTF16 -/
def k12 : Class := { plain "java/lang/StringUTF16" (some 0) with
  accessFlags := 48
  interfaces := #[]
  cf := some (fileOf pool12 12 #[.nestMembers #[627, 629, 369]] #[{ accessFlags := 0, nameIndex := 9, descriptorIndex := 10, attributes := #[] }, { accessFlags := 9, nameIndex := 109, descriptorIndex := 110, attributes := #[] }, { accessFlags := 9, nameIndex := 15, descriptorIndex := 16, attributes := #[] }, { accessFlags := 8, nameIndex := 113, descriptorIndex := 114, attributes := #[] }, { accessFlags := 8, nameIndex := 73, descriptorIndex := 74, attributes := #[] }, { accessFlags := 9, nameIndex := 50, descriptorIndex := 51, attributes := #[] }, { accessFlags := 9, nameIndex := 121, descriptorIndex := 122, attributes := #[] }, { accessFlags := 8, nameIndex := 261, descriptorIndex := 262, attributes := #[] }, { accessFlags := 9, nameIndex := 117, descriptorIndex := 122, attributes := #[] }, { accessFlags := 9, nameIndex := 117, descriptorIndex := 131, attributes := #[] }, { accessFlags := 9, nameIndex := 117, descriptorIndex := 118, attributes := #[] }, { accessFlags := 9, nameIndex := 117, descriptorIndex := 125, attributes := #[] }, { accessFlags := 9, nameIndex := 268, descriptorIndex := 231, attributes := #[] }, { accessFlags := 10, nameIndex := 230, descriptorIndex := 231, attributes := #[] }, { accessFlags := 10, nameIndex := 246, descriptorIndex := 231, attributes := #[] }, { accessFlags := 9, nameIndex := 327, descriptorIndex := 328, attributes := #[] }, { accessFlags := 9, nameIndex := 392, descriptorIndex := 74, attributes := #[] }, { accessFlags := 9, nameIndex := 69, descriptorIndex := 70, attributes := #[] }, { accessFlags := 9, nameIndex := 98, descriptorIndex := 99, attributes := #[] }, { accessFlags := 9, nameIndex := 175, descriptorIndex := 99, attributes := #[] }] 48 6 #[] #[{ accessFlags := 26, nameIndex := 61, descriptorIndex := 62, attributes := #[] }, { accessFlags := 26, nameIndex := 65, descriptorIndex := 62, attributes := #[] }, { accessFlags := 24, nameIndex := 430, descriptorIndex := 62, attributes := #[] }, { accessFlags := 4120, nameIndex := 46, descriptorIndex := 47, attributes := #[] }])
  fields := #[{ name := "HI_BYTE_SHIFT", type := .int, accessFlags := 26, slot := 0, constantValue := 0 }, { name := "LO_BYTE_SHIFT", type := .int, accessFlags := 26, slot := 1, constantValue := 0 }, { name := "MAX_LENGTH", type := .int, accessFlags := 24, slot := 2, constantValue := 0 }, { name := "$assertionsDisabled", type := .boolean, accessFlags := 4120, slot := 3, constantValue := 0 }]
  methods := #[k12m0, k12m1, k12m2, k12m3, k12m4, k12m5, k12m6, k12m7, k12m8, k12m9, k12m10, k12m11, k12m12, k12m13, k12m14, k12m15, k12m16, k12m17, k12m18, k12m19]
  instanceTypes := #[]
  staticTypes := #[.int, .int, .int, .boolean]
  resolved := Array.replicate 635 none
  statics := some 1 }

def pool13 : Array CpInfo := pool [(2, .class_ 4), (1, u "java/lang/Object"), (0, u "<init>"), (0, u "()V"), (17, .class_ 26), (1, u "jdk/internal/util/Preconditions"), (6, u "checkIndex"), (13, u "checkFromToIndex"), (1, u "checkFromIndexSize"), (5, .class_ 56), (0, u "jdk/internal/util/Preconditions$4"), (57, .class_ 115), (0, u "jdk/internal/util/Preconditions$1"), (7, u "SIOOBE_FORMATTER"), (0, u "Ljava/util/function/BiFunction;"), (0, .class_ 126), (0, u "jdk/internal/util/Preconditions$2"), (3, u "AIOOBE_FORMATTER"), (0, .class_ 132), (0, u "jdk/internal/util/Preconditions$3"), (3, u "IOOBE_FORMATTER"), (41, u "(IILjava/util/function/BiFunction;)I"), (4, u "(IIILjava/util/function/BiFunction;)I")] 10

def k13m0 : Method := { name := "<init>", desc := "()V", sig := { parameters := [], returnType := none }, accessFlags := 1, code := none }
def k13c1 : Code := { maxStack := 3, maxLocals := 3, code := jdk_41_method_11_code, exceptionTable := #[], attributes := #[] }
def k13m1 : Method := { name := "checkIndex", desc := "(IILjava/util/function/BiFunction;)I", sig := { parameters := [.int, .int, (.object "java/util/function/BiFunction")], returnType := some .int }, accessFlags := 9, code := some k13c1 }
def k13c2 : Code := { maxStack := 4, maxLocals := 4, code := jdk_41_method_12_code, exceptionTable := #[], attributes := #[] }
def k13m2 : Method := { name := "checkFromToIndex", desc := "(IIILjava/util/function/BiFunction;)I", sig := { parameters := [.int, .int, .int, (.object "java/util/function/BiFunction")], returnType := some .int }, accessFlags := 9, code := some k13c2 }
def k13c3 : Code := { maxStack := 4, maxLocals := 4, code := jdk_41_method_13_code, exceptionTable := #[], attributes := #[] }
def k13m3 : Method := { name := "checkFromIndexSize", desc := "(IIILjava/util/function/BiFunction;)I", sig := { parameters := [.int, .int, .int, (.object "java/util/function/BiFunction")], returnType := some .int }, accessFlags := 9, code := some k13c3 }
/-- jdk/internal/util/Preconditions -/
def k13 : Class := { plain "jdk/internal/util/Preconditions" (some 0) with
  accessFlags := 33
  interfaces := #[]
  cf := some (fileOf pool13 24 #[.nestMembers #[55, 131, 125, 114]] #[{ accessFlags := 1, nameIndex := 5, descriptorIndex := 6, attributes := #[] }, { accessFlags := 9, nameIndex := 33, descriptorIndex := 178, attributes := #[] }, { accessFlags := 9, nameIndex := 47, descriptorIndex := 183, attributes := #[] }, { accessFlags := 9, nameIndex := 49, descriptorIndex := 183, attributes := #[] }] 33 2 #[] #[{ accessFlags := 25, nameIndex := 123, descriptorIndex := 124, attributes := #[] }, { accessFlags := 25, nameIndex := 130, descriptorIndex := 124, attributes := #[] }, { accessFlags := 25, nameIndex := 136, descriptorIndex := 124, attributes := #[] }])
  fields := #[{ name := "SIOOBE_FORMATTER", type := (.object "java/util/function/BiFunction"), accessFlags := 25, slot := 0, constantValue := 0 }, { name := "AIOOBE_FORMATTER", type := (.object "java/util/function/BiFunction"), accessFlags := 25, slot := 1, constantValue := 0 }, { name := "IOOBE_FORMATTER", type := (.object "java/util/function/BiFunction"), accessFlags := 25, slot := 2, constantValue := 0 }]
  methods := #[k13m0, k13m1, k13m2, k13m3]
  instanceTypes := #[]
  staticTypes := #[(.object "java/util/function/BiFunction"), (.object "java/util/function/BiFunction"), (.object "java/util/function/BiFunction")]
  resolved := Array.replicate 194 none
  statics := some 2 }

def pool14 : Array CpInfo := pool [(2, .class_ 4), (1, u "java/lang/Object"), (0, u "<init>"), (0, u "()V"), (7, .class_ 16), (1, u "java/util/Arrays"), (57, .class_ 76), (1, u "java/util/Arrays$NaturalOrder"), (36, .class_ 115), (1, u "java/util/Arrays$LegacyMergeSort"), (1, u "Z"), (21, u "copyOfRange"), (10, .methodref 151 152), (0, .class_ 153), (0, .nameAndType 154 155), (0, u "java/lang/System"), (0, u "arraycopy"), (0, u "(Ljava/lang/Object;ILjava/lang/Object;II)V"), (148, .methodref 305 306), (0, .class_ 307), (0, .nameAndType 308 309), (0, u "java/lang/Math"), (0, u "min"), (0, u "(II)I"), (29, .methodref 14 340), (0, .nameAndType 341 342), (0, u "copyOfRangeByte"), (0, u "([BII)[B"), (0, .methodref 14 344), (0, .nameAndType 345 346), (0, u "checkLength"), (0, u "(II)V"), (28, .class_ 376), (0, u "java/util/Arrays$ArrayList"), (68, u "$assertionsDisabled"), (269, u "MIN_ARRAY_SORT_GRAN"), (0, u "I"), (2, u "INSERTIONSORT_THRESHOLD"), (255, .class_ 976), (0, u "java/util/Arrays$ArrayItr")] 52

def k14m0 : Method := { name := "<init>", desc := "()V", sig := { parameters := [], returnType := none }, accessFlags := 2, code := none }
def k14c1 : Code := { maxStack := 4, maxLocals := 2, code := jdk_65_method_131_code, exceptionTable := #[], attributes := #[] }
def k14m1 : Method := { name := "checkLength", desc := "(II)V", sig := { parameters := [.int, .int], returnType := none }, accessFlags := 10, code := some k14c1 }
def k14c2 : Code := { maxStack := 3, maxLocals := 3, code := jdk_65_method_132_code, exceptionTable := #[], attributes := #[] }
def k14m2 : Method := { name := "copyOfRange", desc := "([BII)[B", sig := { parameters := [(.array .byte), .int, .int], returnType := some (.array .byte) }, accessFlags := 9, code := some k14c2 }
def k14c3 : Code := { maxStack := 6, maxLocals := 5, code := jdk_65_method_133_code, exceptionTable := #[], attributes := #[] }
def k14m3 : Method := { name := "copyOfRangeByte", desc := "([BII)[B", sig := { parameters := [(.array .byte), .int, .int], returnType := some (.array .byte) }, accessFlags := 10, code := some k14c3 }
/-- java/util/Arrays -/
def k14 : Class := { plain "java/util/Arrays" (some 0) with
  accessFlags := 49
  interfaces := #[]
  cf := some (fileOf pool14 14 #[.nestMembers #[975, 375, 113, 74]] #[{ accessFlags := 2, nameIndex := 5, descriptorIndex := 6, attributes := #[] }, { accessFlags := 10, nameIndex := 345, descriptorIndex := 346, attributes := #[] }, { accessFlags := 9, nameIndex := 139, descriptorIndex := 342, attributes := #[] }, { accessFlags := 10, nameIndex := 341, descriptorIndex := 342, attributes := #[] }] 49 2 #[] #[{ accessFlags := 26, nameIndex := 715, descriptorIndex := 716, attributes := #[] }, { accessFlags := 26, nameIndex := 719, descriptorIndex := 716, attributes := #[] }, { accessFlags := 4120, nameIndex := 445, descriptorIndex := 117, attributes := #[] }])
  fields := #[{ name := "MIN_ARRAY_SORT_GRAN", type := .int, accessFlags := 26, slot := 0, constantValue := 0 }, { name := "INSERTIONSORT_THRESHOLD", type := .int, accessFlags := 26, slot := 1, constantValue := 0 }, { name := "$assertionsDisabled", type := .boolean, accessFlags := 4120, slot := 2, constantValue := 0 }]
  methods := #[k14m0, k14m1, k14m2, k14m3]
  instanceTypes := #[]
  staticTypes := #[.int, .int, .boolean]
  resolved := Array.replicate 1029 none
  statics := none }

def pool15 : Array CpInfo := pool [(2, .class_ 4), (1, u "java/lang/Object"), (0, u "<init>"), (0, u "()V"), (1, .class_ 10), (1, u "java/lang/System"), (0, u "allowSecurityManager"), (0, u "I"), (16, u "cons"), (0, u "Ljava/io/Console;"), (77, .class_ 110), (1, u "java/lang/System$CallersHolder"), (43, u "initialErrStream"), (0, u "Ljava/io/PrintStream;"), (19, u "security"), (0, u "Ljava/lang/SecurityManager;"), (31, .class_ 209), (0, u "java/lang/System$1"), (7, u "props"), (0, u "Ljava/util/Properties;"), (2, u "lineSeparator"), (0, u "Ljava/lang/String;"), (96, .class_ 321), (1, u "java/lang/System$LoggerFinder"), (5, .class_ 328), (0, u "java/lang/System$Logger"), (67, u "err"), (2, u "out"), (91, u "notSupportedJnuEncoding"), (15, u "in"), (17, u "initialIn"), (0, u "Ljava/io/InputStream;"), (35, u "bootLayer"), (0, u "Ljava/lang/ModuleLayer;"), (99, .class_ 664), (0, u "java/lang/System$2"), (9, u "NEVER"), (2, u "MAYBE"), (49, u "arraycopy"), (0, u "(Ljava/lang/Object;ILjava/lang/Object;II)V"), (72, .class_ 802), (0, u "java/lang/System$Logger$Level")] 31

def k15m0 : Method := { name := "<init>", desc := "()V", sig := { parameters := [], returnType := none }, accessFlags := 2, code := none }
def k15m1 : Method := { name := "arraycopy", desc := "(Ljava/lang/Object;ILjava/lang/Object;II)V", sig := { parameters := [(.object "java/lang/Object"), .int, (.object "java/lang/Object"), .int, .int], returnType := none }, accessFlags := 265, code := none }
/-- java/lang/System -/
def k15 : Class := { plain "java/lang/System" (some 0) with
  accessFlags := 49
  interfaces := #[]
  cf := some (fileOf pool15 8 #[.nestMembers #[319, 327, 801, 108, 663, 208]] #[{ accessFlags := 2, nameIndex := 5, descriptorIndex := 6, attributes := #[] }, { accessFlags := 265, nameIndex := 727, descriptorIndex := 728, attributes := #[] }] 49 2 #[] #[{ accessFlags := 25, nameIndex := 507, descriptorIndex := 526, attributes := #[] }, { accessFlags := 25, nameIndex := 399, descriptorIndex := 155, attributes := #[] }, { accessFlags := 25, nameIndex := 396, descriptorIndex := 155, attributes := #[] }, { accessFlags := 10, nameIndex := 525, descriptorIndex := 526, attributes := #[] }, { accessFlags := 26, nameIndex := 674, descriptorIndex := 12, attributes := #[] }, { accessFlags := 26, nameIndex := 677, descriptorIndex := 12, attributes := #[] }, { accessFlags := 10, nameIndex := 11, descriptorIndex := 12, attributes := #[] }, { accessFlags := 74, nameIndex := 175, descriptorIndex := 176, attributes := #[] }, { accessFlags := 10, nameIndex := 491, descriptorIndex := 222, attributes := #[] }, { accessFlags := 74, nameIndex := 29, descriptorIndex := 30, attributes := #[] }, { accessFlags := 74, nameIndex := 154, descriptorIndex := 155, attributes := #[] }, { accessFlags := 10, nameIndex := 217, descriptorIndex := 218, attributes := #[] }, { accessFlags := 10, nameIndex := 221, descriptorIndex := 222, attributes := #[] }, { accessFlags := 8, nameIndex := 562, descriptorIndex := 563, attributes := #[] }])
  fields := #[{ name := "in", type := (.object "java/io/InputStream"), accessFlags := 25, slot := 0, constantValue := 0 }, { name := "out", type := (.object "java/io/PrintStream"), accessFlags := 25, slot := 1, constantValue := 0 }, { name := "err", type := (.object "java/io/PrintStream"), accessFlags := 25, slot := 2, constantValue := 0 }, { name := "initialIn", type := (.object "java/io/InputStream"), accessFlags := 10, slot := 3, constantValue := 0 }, { name := "NEVER", type := .int, accessFlags := 26, slot := 4, constantValue := 0 }, { name := "MAYBE", type := .int, accessFlags := 26, slot := 5, constantValue := 0 }, { name := "allowSecurityManager", type := .int, accessFlags := 10, slot := 6, constantValue := 0 }, { name := "security", type := (.object "java/lang/SecurityManager"), accessFlags := 74, slot := 7, constantValue := 0 }, { name := "notSupportedJnuEncoding", type := (.object "java/lang/String"), accessFlags := 10, slot := 8, constantValue := 0 }, { name := "cons", type := (.object "java/io/Console"), accessFlags := 74, slot := 9, constantValue := 0 }, { name := "initialErrStream", type := (.object "java/io/PrintStream"), accessFlags := 74, slot := 10, constantValue := 0 }, { name := "props", type := (.object "java/util/Properties"), accessFlags := 10, slot := 11, constantValue := 0 }, { name := "lineSeparator", type := (.object "java/lang/String"), accessFlags := 10, slot := 12, constantValue := 0 }, { name := "bootLayer", type := (.object "java/lang/ModuleLayer"), accessFlags := 8, slot := 13, constantValue := 0 }]
  methods := #[k15m0, k15m1]
  instanceTypes := #[]
  staticTypes := #[(.object "java/io/InputStream"), (.object "java/io/PrintStream"), (.object "java/io/PrintStream"), (.object "java/io/InputStream"), .int, .int, .int, (.object "java/lang/SecurityManager"), (.object "java/lang/String"), (.object "java/io/Console"), (.object "java/io/PrintStream"), (.object "java/util/Properties"), (.object "java/lang/String"), (.object "java/lang/ModuleLayer")]
  resolved := Array.replicate 834 none
  statics := none }

def pool16 : Array CpInfo := pool [(9, u "<init>"), (6, .class_ 18), (1, u "java/lang/Object"), (0, u "()V"), (1, .class_ 23), (1, u "jdk/internal/util/ArraysSupport"), (0, u "LOG2_ARRAY_LONG_INDEX_SCALE"), (0, u "I"), (2, u "U"), (0, u "Ljdk/internal/misc/Unsafe;"), (8, u "BIG_ENDIAN"), (0, u "Z"), (8, u "LOG2_BYTE_BIT_SIZE"), (4, u "LOG2_ARRAY_INT_INDEX_SCALE"), (54, u "JLA"), (0, u "Ljdk/internal/access/JavaLangAccess;"), (11, u "LOG2_ARRAY_BOOLEAN_INDEX_SCALE"), (9, u "LOG2_ARRAY_BYTE_INDEX_SCALE"), (5, u "LOG2_ARRAY_CHAR_INDEX_SCALE"), (5, u "LOG2_ARRAY_SHORT_INDEX_SCALE"), (18, u "LOG2_ARRAY_FLOAT_INDEX_SCALE"), (24, u "LOG2_ARRAY_DOUBLE_INDEX_SCALE"), (89, u "T_BOOLEAN"), (2, u "T_CHAR"), (1, u "T_FLOAT"), (1, u "T_DOUBLE"), (1, u "T_BYTE"), (1, u "T_SHORT"), (1, u "T_INT"), (1, u "T_LONG"), (1, u "SOFT_MAX_ARRAY_LENGTH")] 83

def k16m0 : Method := { name := "<init>", desc := "()V", sig := { parameters := [], returnType := none }, accessFlags := 2, code := none }
/-- jdk/internal/util/ArraysSupport -/
def k16 : Class := { plain "jdk/internal/util/ArraysSupport" (some 0) with
  accessFlags := 33
  interfaces := #[]
  cf := some (fileOf pool16 21 #[] #[{ accessFlags := 2, nameIndex := 9, descriptorIndex := 19, attributes := #[] }] 33 16 #[] #[{ accessFlags := 24, nameIndex := 28, descriptorIndex := 29, attributes := #[] }, { accessFlags := 26, nameIndex := 38, descriptorIndex := 39, attributes := #[] }, { accessFlags := 25, nameIndex := 121, descriptorIndex := 25, attributes := #[] }, { accessFlags := 25, nameIndex := 131, descriptorIndex := 25, attributes := #[] }, { accessFlags := 25, nameIndex := 137, descriptorIndex := 25, attributes := #[] }, { accessFlags := 25, nameIndex := 143, descriptorIndex := 25, attributes := #[] }, { accessFlags := 25, nameIndex := 53, descriptorIndex := 25, attributes := #[] }, { accessFlags := 25, nameIndex := 24, descriptorIndex := 25, attributes := #[] }, { accessFlags := 25, nameIndex := 162, descriptorIndex := 25, attributes := #[] }, { accessFlags := 25, nameIndex := 187, descriptorIndex := 25, attributes := #[] }, { accessFlags := 26, nameIndex := 48, descriptorIndex := 25, attributes := #[] }, { accessFlags := 25, nameIndex := 277, descriptorIndex := 25, attributes := #[] }, { accessFlags := 25, nameIndex := 280, descriptorIndex := 25, attributes := #[] }, { accessFlags := 25, nameIndex := 282, descriptorIndex := 25, attributes := #[] }, { accessFlags := 25, nameIndex := 284, descriptorIndex := 25, attributes := #[] }, { accessFlags := 25, nameIndex := 286, descriptorIndex := 25, attributes := #[] }, { accessFlags := 25, nameIndex := 288, descriptorIndex := 25, attributes := #[] }, { accessFlags := 25, nameIndex := 290, descriptorIndex := 25, attributes := #[] }, { accessFlags := 25, nameIndex := 292, descriptorIndex := 25, attributes := #[] }, { accessFlags := 26, nameIndex := 108, descriptorIndex := 109, attributes := #[] }, { accessFlags := 25, nameIndex := 294, descriptorIndex := 25, attributes := #[] }])
  fields := #[{ name := "U", type := (.object "jdk/internal/misc/Unsafe"), accessFlags := 24, slot := 0, constantValue := 0 }, { name := "BIG_ENDIAN", type := .boolean, accessFlags := 26, slot := 1, constantValue := 0 }, { name := "LOG2_ARRAY_BOOLEAN_INDEX_SCALE", type := .int, accessFlags := 25, slot := 2, constantValue := 0 }, { name := "LOG2_ARRAY_BYTE_INDEX_SCALE", type := .int, accessFlags := 25, slot := 3, constantValue := 0 }, { name := "LOG2_ARRAY_CHAR_INDEX_SCALE", type := .int, accessFlags := 25, slot := 4, constantValue := 0 }, { name := "LOG2_ARRAY_SHORT_INDEX_SCALE", type := .int, accessFlags := 25, slot := 5, constantValue := 0 }, { name := "LOG2_ARRAY_INT_INDEX_SCALE", type := .int, accessFlags := 25, slot := 6, constantValue := 0 }, { name := "LOG2_ARRAY_LONG_INDEX_SCALE", type := .int, accessFlags := 25, slot := 7, constantValue := 0 }, { name := "LOG2_ARRAY_FLOAT_INDEX_SCALE", type := .int, accessFlags := 25, slot := 8, constantValue := 0 }, { name := "LOG2_ARRAY_DOUBLE_INDEX_SCALE", type := .int, accessFlags := 25, slot := 9, constantValue := 0 }, { name := "LOG2_BYTE_BIT_SIZE", type := .int, accessFlags := 26, slot := 10, constantValue := 0 }, { name := "T_BOOLEAN", type := .int, accessFlags := 25, slot := 11, constantValue := 0 }, { name := "T_CHAR", type := .int, accessFlags := 25, slot := 12, constantValue := 0 }, { name := "T_FLOAT", type := .int, accessFlags := 25, slot := 13, constantValue := 0 }, { name := "T_DOUBLE", type := .int, accessFlags := 25, slot := 14, constantValue := 0 }, { name := "T_BYTE", type := .int, accessFlags := 25, slot := 15, constantValue := 0 }, { name := "T_SHORT", type := .int, accessFlags := 25, slot := 16, constantValue := 0 }, { name := "T_INT", type := .int, accessFlags := 25, slot := 17, constantValue := 0 }, { name := "T_LONG", type := .int, accessFlags := 25, slot := 18, constantValue := 0 }, { name := "JLA", type := (.object "jdk/internal/access/JavaLangAccess"), accessFlags := 26, slot := 19, constantValue := 0 }, { name := "SOFT_MAX_ARRAY_LENGTH", type := .int, accessFlags := 25, slot := 20, constantValue := 0 }]
  methods := #[k16m0]
  instanceTypes := #[]
  staticTypes := #[(.object "jdk/internal/misc/Unsafe"), .boolean, .int, .int, .int, .int, .int, .int, .int, .int, .int, .int, .int, .int, .int, .int, .int, .int, .int, (.object "jdk/internal/access/JavaLangAccess"), .int]
  resolved := Array.replicate 378 none
  statics := none }

def pool17 : Array CpInfo := pool [(1, u "java/lang/Cloneable"), (0, .class_ 1), (0, u "java/lang/Object"), (0, .class_ 3)] 3

/-- java/lang/Cloneable -/
def k17 : Class := { plain "java/lang/Cloneable" (some 0) with
  accessFlags := 1537
  interfaces := #[]
  cf := some (fileOf pool17 2 #[] #[] 1537 4 #[] #[])
  fields := #[]
  methods := #[]
  instanceTypes := #[]
  staticTypes := #[]
  resolved := Array.replicate 8 none
  statics := none }

/-- the primitive byte -/
def k18 : Class := { plain "byte" none with kind := .primitive 'B', accessFlags := 0x411 }
/-- [B -/
def k19 : Class := { plain "[B" (some 0) with kind := .array 18 .byte, interfaces := #[17, 2], accessFlags := 1041 }

/-- the primitive char -/
def k20 : Class := { plain "char" none with kind := .primitive 'C', accessFlags := 0x411 }
/-- [C -/
def k21 : Class := { plain "[C" (some 0) with kind := .array 20 .char, interfaces := #[17, 2], accessFlags := 1041 }

/-- the primitive int -/
def k22 : Class := { plain "int" none with kind := .primitive 'I', accessFlags := 0x411 }
/-- [I -/
def k23 : Class := { plain "[I" (some 0) with kind := .array 22 .int, interfaces := #[17, 2], accessFlags := 1041 }

def heap : Heap := #[{ cls := 7, slots := #[.long 0, .int 1, .null, .int 0, .null, .int 0, .int 0], vm := .statics 7 },
  { cls := 12, slots := #[.int 0, .int 8, .int 0, .int 1], vm := .statics 12 },
  { cls := 13, slots := #[.null, .null, .null], vm := .statics 13 }]
def classes : Array Class := #[k0, k1, k2, k3, k4, k5, k6, k7, k8, k9, k10, k11, k12, k13, k14, k15, k16, k17, k18, k19, k20, k21, k22, k23]
def interned : List (Array UInt16 × Addr) := []
def slotsUsed : Nat := 14
def theMethod : MethodId := ⟨1, 1⟩
def args0 : Array Value := #[.int 5, .int 1, .int 1, .int 1, .int 1]
def aboutOver (below : List Frame) : State where
  vm := { classes := classes, interned := interned.toArray }
  heap := heap
  slotsUsed := slotsUsed
  threads := #[{ frames := .invoking theMethod args0 :: below }]
def below0 : List Frame := [.native { method := ⟨0, 0⟩, args := #[] }]
def about1 : State := aboutOver below0
def p0 : Program := .bare "" "" ""
def e0 : Env := launch0.env 0 0 0
theorem w_frames : about1.frames = Frame.invoking theMethod args0 :: below0 := rfl
set_option maxRecDepth 65536 in
theorem w_args : argsFit about1.vm theMethod args0 = true := by decide +kernel
set_option maxRecDepth 65536 in
theorem w_heap : heapFits about1 = true := by decide +kernel
set_option maxRecDepth 65536 in
theorem w_runnable : about1.curStatus? = some .runnable := by decide +kernel
set_option maxRecDepth 65536 in
theorem w_alone : about1.alone = true := by decide +kernel
set_option maxRecDepth 65536 in
theorem w_named : about1.methodNamed? x = some theMethod := by decide +kernel
set_option maxRecDepth 65536 in
theorem w_hears : about1.hears theMethod below0 = true := by decide +kernel
set_option maxRecDepth 65536 in
theorem w_ripe : about1.ripe theMethod args0 below0 = true := by decide +kernel
theorem w_running : about1.status = .running := rfl
set_option maxRecDepth 65536 in
theorem w_room : about1.hasRoom e0.platform room_1 = true :=
  launch0.hasRoom_least _ room_1 (by decide +kernel) (by decide +kernel) (by decide +kernel) (by decide +kernel) (by decide +kernel) (by decide +kernel)
theorem allAtoms_all (ts : List Jvm.Cond) (a : Array Jvm.Value) (st : Jvm.State) : (allAtoms ts).before a st = ts.all (fun c => c.before a st) := by
  induction ts with
  | nil => rfl
  | cons c t ih =>
    show (Jvm.Cond.and c (allAtoms t)).before a st = _
    rw [Jvm.Cond.before_and, ih, List.all_cons]
def words1 : List Jvm.Cond := Jvm.Cond.code x code maxLocals ret :: tables_1
/-- a 'code' word, met by the world's own term for the bytes: nothing is compared byte by byte -/
theorem code_word {y : MethodName} {bytes : ByteArray} {mx : Nat} {rt : Option FieldType} {a : Array Value} {s : State} {m : MethodId} {meth : Method} {c : Code} (h1 : s.methodNamed? y = some m) (h2 : s.vm.method? m = some meth) (h3 : meth.code = some c) (h4 : c.code = bytes)
    (h5 : (c.maxLocals == mx && c.exceptionTable.isEmpty && decide (c.maxStack ≤ mostOperands) && decide (meth.sig.returnType = rt) && !meth.locks && decide (parseMethodDescriptor y.desc = some meth.sig)) = true) : (Jvm.Cond.code y bytes mx rt).before a s = true := by
  simp only [Bool.and_eq_true, beq_iff_eq, Bool.not_eq_true', decide_eq_true_eq] at h5
  obtain ⟨⟨⟨⟨⟨g1, g2⟩, g3⟩, g4⟩, g5⟩, g6⟩ := h5
  simp [Cond.before, Cond.holds, Cond.value, h1, h2, h3, h4, g1, g2, g3, g4, g5, g6]
def isCode : Jvm.Cond → Bool
  | .code _ _ _ _ => true
  | _ => false
theorem all_split {L : List Jvm.Cond} {P : Jvm.Cond → Bool} (h1 : L.all (fun c => isCode c || P c) = true) (h2 : ∀ c ∈ L.filter isCode, P c = true) : L.all P = true := by
  refine List.all_eq_true.mpr fun c hc => ?_
  have h := List.all_eq_true.mp h1 c hc
  rcases Bool.eq_false_or_eq_true (isCode c) with hi | hi
  · exact h2 c (List.mem_filter.mpr ⟨hc, hi⟩)
  · simpa [hi] using h
set_option maxRecDepth 65536 in
theorem w_c0 : (Jvm.Cond.code x code maxLocals ret).before args0 about1 = true := code_word (m := ⟨1, 1⟩) (meth := k1m1) (c := k1c1) (by decide +kernel) rfl rfl rfl (by decide +kernel)
set_option maxRecDepth 65536 in
theorem w_c1 : (Jvm.Cond.code ({ cls := "com/example/detangle/detangle/TestListCaseNamePinLaw", name := "draw", desc := "(I)C" } : Jvm.MethodName) method_3_code (1 : Nat) (Option.some Jvm.ClassFile.FieldType.char)).before args0 about1 = true := code_word (m := ⟨1, 2⟩) (meth := k1m2) (c := k1c2) (by decide +kernel) rfl rfl rfl (by decide +kernel)
set_option maxRecDepth 65536 in
theorem w_c2 : (Jvm.Cond.code ({ cls := "com/example/detangle/detangle/TestListCaseNamePinLaw", name := "make", desc := "([CI)Ljava/lang/String;" } : Jvm.MethodName) method_4_code (2 : Nat) (Option.some (Jvm.ClassFile.FieldType.object "java/lang/String"))).before args0 about1 = true := code_word (m := ⟨1, 3⟩) (meth := k1m3) (c := k1c3) (by decide +kernel) rfl rfl rfl (by decide +kernel)
set_option maxRecDepth 65536 in
theorem w_c3 : (Jvm.Cond.code ({ cls := "java/lang/String", name := "<init>", desc := "([C)V" } : Jvm.MethodName) jdk_42_method_3_code (2 : Nat) (Option.none : Option Jvm.ClassFile.FieldType)).before args0 about1 = true := code_word (m := ⟨7, 1⟩) (meth := k7m1) (c := k7c1) (by decide +kernel) rfl rfl rfl (by decide +kernel)
set_option maxRecDepth 65536 in
theorem w_c4 : (Jvm.Cond.code ({ cls := "java/lang/String", name := "<init>", desc := "([CIILjava/lang/Void;)V" } : Jvm.MethodName) jdk_42_method_149_code (6 : Nat) (Option.none : Option Jvm.ClassFile.FieldType)).before args0 about1 = true := code_word (m := ⟨7, 8⟩) (meth := k7m8) (c := k7c8) (by decide +kernel) rfl rfl rfl (by decide +kernel)
set_option maxRecDepth 65536 in
theorem w_c5 : (Jvm.Cond.code ({ cls := "java/lang/Object", name := "<init>", desc := "()V" } : Jvm.MethodName) object_method_1_code (1 : Nat) (Option.none : Option Jvm.ClassFile.FieldType)).before args0 about1 = true := code_word (m := ⟨0, 0⟩) (meth := k0m0) (c := k0c0) (by decide +kernel) rfl rfl rfl (by decide +kernel)
set_option maxRecDepth 65536 in
theorem w_c6 : (Jvm.Cond.code ({ cls := "com/example/detangle/detangle/TestList", name := "caseName", desc := "(Ljava/lang/String;)Ljava/lang/String;" } : Jvm.MethodName) prog_57_method_4_code (2 : Nat) (Option.some (Jvm.ClassFile.FieldType.object "java/lang/String"))).before args0 about1 = true := code_word (m := ⟨9, 0⟩) (meth := k9m0) (c := k9c0) (by decide +kernel) rfl rfl rfl (by decide +kernel)
set_option maxRecDepth 65536 in
theorem w_c7 : (Jvm.Cond.code ({ cls := "java/lang/String", name := "indexOf", desc := "(I)I" } : Jvm.MethodName) jdk_42_method_79_code (2 : Nat) (Option.some Jvm.ClassFile.FieldType.int)).before args0 about1 = true := code_word (m := ⟨7, 4⟩) (meth := k7m4) (c := k7c4) (by decide +kernel) rfl rfl rfl (by decide +kernel)
set_option maxRecDepth 65536 in
theorem w_c8 : (Jvm.Cond.code ({ cls := "java/lang/String", name := "indexOf", desc := "(II)I" } : Jvm.MethodName) jdk_42_method_80_code (3 : Nat) (Option.some Jvm.ClassFile.FieldType.int)).before args0 about1 = true := code_word (m := ⟨7, 5⟩) (meth := k7m5) (c := k7c5) (by decide +kernel) rfl rfl rfl (by decide +kernel)
set_option maxRecDepth 65536 in
theorem w_c9 : (Jvm.Cond.code ({ cls := "java/lang/String", name := "isLatin1", desc := "()Z" } : Jvm.MethodName) jdk_42_method_154_code (1 : Nat) (Option.some Jvm.ClassFile.FieldType.boolean)).before args0 about1 = true := code_word (m := ⟨7, 11⟩) (meth := k7m11) (c := k7c11) (by decide +kernel) rfl rfl rfl (by decide +kernel)
set_option maxRecDepth 65536 in
theorem w_c10 : (Jvm.Cond.code ({ cls := "java/lang/String", name := "length", desc := "()I" } : Jvm.MethodName) jdk_42_method_54_code (1 : Nat) (Option.some Jvm.ClassFile.FieldType.int)).before args0 about1 = true := code_word (m := ⟨7, 2⟩) (meth := k7m2) (c := k7c2) (by decide +kernel) rfl rfl rfl (by decide +kernel)
set_option maxRecDepth 65536 in
theorem w_c11 : (Jvm.Cond.code ({ cls := "java/lang/String", name := "coder", desc := "()B" } : Jvm.MethodName) jdk_42_method_152_code (1 : Nat) (Option.some Jvm.ClassFile.FieldType.byte)).before args0 about1 = true := code_word (m := ⟨7, 10⟩) (meth := k7m10) (c := k7c10) (by decide +kernel) rfl rfl rfl (by decide +kernel)
set_option maxRecDepth 65536 in
theorem w_c12 : (Jvm.Cond.code ({ cls := "java/lang/StringLatin1", name := "indexOf", desc := "([BIII)I" } : Jvm.MethodName) jdk_43_method_22_code (4 : Nat) (Option.some Jvm.ClassFile.FieldType.int)).before args0 about1 = true := code_word (m := ⟨10, 3⟩) (meth := k10m3) (c := k10c3) (by decide +kernel) rfl rfl rfl (by decide +kernel)
set_option maxRecDepth 65536 in
theorem w_c13 : (Jvm.Cond.code ({ cls := "java/lang/StringLatin1", name := "canEncode", desc := "(I)Z" } : Jvm.MethodName) jdk_43_method_4_code (1 : Nat) (Option.some Jvm.ClassFile.FieldType.boolean)).before args0 about1 = true := code_word (m := ⟨10, 2⟩) (meth := k10m2) (c := k10c2) (by decide +kernel) rfl rfl rfl (by decide +kernel)
set_option maxRecDepth 65536 in
theorem w_c14 : (Jvm.Cond.code ({ cls := "java/lang/Math", name := "max", desc := "(II)I" } : Jvm.MethodName) jdk_29_method_65_code (2 : Nat) (Option.some Jvm.ClassFile.FieldType.int)).before args0 about1 = true := code_word (m := ⟨11, 1⟩) (meth := k11m1) (c := k11c1) (by decide +kernel) rfl rfl rfl (by decide +kernel)
set_option maxRecDepth 65536 in
theorem w_c15 : (Jvm.Cond.code ({ cls := "java/lang/Math", name := "min", desc := "(II)I" } : Jvm.MethodName) jdk_29_method_69_code (2 : Nat) (Option.some Jvm.ClassFile.FieldType.int)).before args0 about1 = true := code_word (m := ⟨11, 2⟩) (meth := k11m2) (c := k11c2) (by decide +kernel) rfl rfl rfl (by decide +kernel)
set_option maxRecDepth 65536 in
theorem w_c16 : (Jvm.Cond.code ({ cls := "com/example/detangle/detangle/TestListCaseNamePinLaw", name := "firstHash", desc := "([CI)I" } : Jvm.MethodName) method_5_code (2 : Nat) (Option.some Jvm.ClassFile.FieldType.int)).before args0 about1 = true := code_word (m := ⟨1, 4⟩) (meth := k1m4) (c := k1c4) (by decide +kernel) rfl rfl rfl (by decide +kernel)
set_option maxRecDepth 65536 in
theorem w_c17 : (Jvm.Cond.code ({ cls := "com/example/detangle/detangle/TestListCaseNamePinLaw", name := "same", desc := "(Ljava/lang/String;[CII)Z" } : Jvm.MethodName) method_6_code (5 : Nat) (Option.some Jvm.ClassFile.FieldType.boolean)).before args0 about1 = true := code_word (m := ⟨1, 5⟩) (meth := k1m5) (c := k1c5) (by decide +kernel) rfl rfl rfl (by decide +kernel)
set_option maxRecDepth 65536 in
theorem w_c18 : (Jvm.Cond.code ({ cls := "java/lang/StringUTF16", name := "compress", desc := "([CII)[B" } : Jvm.MethodName) jdk_52_method_16_code (6 : Nat) (Option.some (Jvm.ClassFile.FieldType.array Jvm.ClassFile.FieldType.byte))).before args0 about1 = true := code_word (m := ⟨12, 8⟩) (meth := k12m8) (c := k12c8) (by decide +kernel) rfl rfl rfl (by decide +kernel)
set_option maxRecDepth 65536 in
theorem w_c19 : (Jvm.Cond.code ({ cls := "java/lang/StringUTF16", name := "compress", desc := "([CI[BII)I" } : Jvm.MethodName) jdk_52_method_21_code (7 : Nat) (Option.some Jvm.ClassFile.FieldType.int)).before args0 about1 = true := code_word (m := ⟨12, 10⟩) (meth := k12m10) (c := k12c10) (by decide +kernel) rfl rfl rfl (by decide +kernel)
set_option maxRecDepth 65536 in
theorem w_c20 : (Jvm.Cond.code ({ cls := "java/lang/StringUTF16", name := "coderFromArrayLen", desc := "([BI)B" } : Jvm.MethodName) jdk_52_method_15_code (2 : Nat) (Option.some Jvm.ClassFile.FieldType.byte)).before args0 about1 = true := code_word (m := ⟨12, 7⟩) (meth := k12m7) (c := k12c7) (by decide +kernel) rfl rfl rfl (by decide +kernel)
set_option maxRecDepth 65536 in
theorem w_c21 : (Jvm.Cond.code ({ cls := "java/lang/StringLatin1", name := "indexOfChar", desc := "([BIII)I" } : Jvm.MethodName) jdk_43_method_23_code (6 : Nat) (Option.some Jvm.ClassFile.FieldType.int)).before args0 about1 = true := code_word (m := ⟨10, 4⟩) (meth := k10m4) (c := k10c4) (by decide +kernel) rfl rfl rfl (by decide +kernel)
set_option maxRecDepth 65536 in
theorem w_c22 : (Jvm.Cond.code ({ cls := "java/lang/String", name := "substring", desc := "(I)Ljava/lang/String;" } : Jvm.MethodName) jdk_42_method_91_code (2 : Nat) (Option.some (Jvm.ClassFile.FieldType.object "java/lang/String"))).before args0 about1 = true := code_word (m := ⟨7, 6⟩) (meth := k7m6) (c := k7c6) (by decide +kernel) rfl rfl rfl (by decide +kernel)
set_option maxRecDepth 65536 in
theorem w_c23 : (Jvm.Cond.code ({ cls := "java/lang/String", name := "substring", desc := "(II)Ljava/lang/String;" } : Jvm.MethodName) jdk_42_method_92_code (5 : Nat) (Option.some (Jvm.ClassFile.FieldType.object "java/lang/String"))).before args0 about1 = true := code_word (m := ⟨7, 7⟩) (meth := k7m7) (c := k7c7) (by decide +kernel) rfl rfl rfl (by decide +kernel)
set_option maxRecDepth 65536 in
theorem w_c24 : (Jvm.Cond.code ({ cls := "java/lang/String", name := "checkBoundsBeginEnd", desc := "(III)V" } : Jvm.MethodName) jdk_42_method_158_code (3 : Nat) (Option.none : Option Jvm.ClassFile.FieldType)).before args0 about1 = true := code_word (m := ⟨7, 14⟩) (meth := k7m14) (c := k7c14) (by decide +kernel) rfl rfl rfl (by decide +kernel)
set_option maxRecDepth 65536 in
theorem w_c25 : (Jvm.Cond.code ({ cls := "jdk/internal/util/Preconditions", name := "checkFromToIndex", desc := "(IIILjava/util/function/BiFunction;)I" } : Jvm.MethodName) jdk_41_method_12_code (4 : Nat) (Option.some Jvm.ClassFile.FieldType.int)).before args0 about1 = true := code_word (m := ⟨13, 2⟩) (meth := k13m2) (c := k13c2) (by decide +kernel) rfl rfl rfl (by decide +kernel)
set_option maxRecDepth 65536 in
theorem w_c26 : (Jvm.Cond.code ({ cls := "java/lang/StringLatin1", name := "newString", desc := "([BII)Ljava/lang/String;" } : Jvm.MethodName) jdk_43_method_47_code (3 : Nat) (Option.some (Jvm.ClassFile.FieldType.object "java/lang/String"))).before args0 about1 = true := code_word (m := ⟨10, 5⟩) (meth := k10m5) (c := k10c5) (by decide +kernel) rfl rfl rfl (by decide +kernel)
set_option maxRecDepth 65536 in
theorem w_c27 : (Jvm.Cond.code ({ cls := "java/util/Arrays", name := "copyOfRange", desc := "([BII)[B" } : Jvm.MethodName) jdk_65_method_132_code (3 : Nat) (Option.some (Jvm.ClassFile.FieldType.array Jvm.ClassFile.FieldType.byte))).before args0 about1 = true := code_word (m := ⟨14, 2⟩) (meth := k14m2) (c := k14c2) (by decide +kernel) rfl rfl rfl (by decide +kernel)
set_option maxRecDepth 65536 in
theorem w_c28 : (Jvm.Cond.code ({ cls := "java/util/Arrays", name := "copyOfRangeByte", desc := "([BII)[B" } : Jvm.MethodName) jdk_65_method_133_code (5 : Nat) (Option.some (Jvm.ClassFile.FieldType.array Jvm.ClassFile.FieldType.byte))).before args0 about1 = true := code_word (m := ⟨14, 3⟩) (meth := k14m3) (c := k14c3) (by decide +kernel) rfl rfl rfl (by decide +kernel)
set_option maxRecDepth 65536 in
theorem w_c29 : (Jvm.Cond.code ({ cls := "java/util/Arrays", name := "checkLength", desc := "(II)V" } : Jvm.MethodName) jdk_65_method_131_code (2 : Nat) (Option.none : Option Jvm.ClassFile.FieldType)).before args0 about1 = true := code_word (m := ⟨14, 1⟩) (meth := k14m1) (c := k14c1) (by decide +kernel) rfl rfl rfl (by decide +kernel)
set_option maxRecDepth 65536 in
theorem w_c30 : (Jvm.Cond.code ({ cls := "java/lang/String", name := "<init>", desc := "([BB)V" } : Jvm.MethodName) jdk_42_method_151_code (3 : Nat) (Option.none : Option Jvm.ClassFile.FieldType)).before args0 about1 = true := code_word (m := ⟨7, 9⟩) (meth := k7m9) (c := k7c9) (by decide +kernel) rfl rfl rfl (by decide +kernel)
set_option maxRecDepth 65536 in
theorem w_c31 : (Jvm.Cond.code ({ cls := "java/lang/String", name := "charAt", desc := "(I)C" } : Jvm.MethodName) jdk_42_method_56_code (2 : Nat) (Option.some Jvm.ClassFile.FieldType.char)).before args0 about1 = true := code_word (m := ⟨7, 3⟩) (meth := k7m3) (c := k7c3) (by decide +kernel) rfl rfl rfl (by decide +kernel)
set_option maxRecDepth 65536 in
theorem w_c32 : (Jvm.Cond.code ({ cls := "java/lang/StringLatin1", name := "charAt", desc := "([BI)C" } : Jvm.MethodName) jdk_43_method_2_code (2 : Nat) (Option.some Jvm.ClassFile.FieldType.char)).before args0 about1 = true := code_word (m := ⟨10, 1⟩) (meth := k10m1) (c := k10c1) (by decide +kernel) rfl rfl rfl (by decide +kernel)
set_option maxRecDepth 65536 in
theorem w_c33 : (Jvm.Cond.code ({ cls := "java/lang/String", name := "checkIndex", desc := "(II)V" } : Jvm.MethodName) jdk_42_method_155_code (2 : Nat) (Option.none : Option Jvm.ClassFile.FieldType)).before args0 about1 = true := code_word (m := ⟨7, 12⟩) (meth := k7m12) (c := k7c12) (by decide +kernel) rfl rfl rfl (by decide +kernel)
set_option maxRecDepth 65536 in
theorem w_c34 : (Jvm.Cond.code ({ cls := "jdk/internal/util/Preconditions", name := "checkIndex", desc := "(IILjava/util/function/BiFunction;)I" } : Jvm.MethodName) jdk_41_method_11_code (3 : Nat) (Option.some Jvm.ClassFile.FieldType.int)).before args0 about1 = true := code_word (m := ⟨13, 1⟩) (meth := k13m1) (c := k13c1) (by decide +kernel) rfl rfl rfl (by decide +kernel)
set_option maxRecDepth 65536 in
theorem w_c35 : (Jvm.Cond.code ({ cls := "java/lang/StringUTF16", name := "toBytes", desc := "([CII)[B" } : Jvm.MethodName) jdk_52_method_14_code (5 : Nat) (Option.some (Jvm.ClassFile.FieldType.array Jvm.ClassFile.FieldType.byte))).before args0 about1 = true := code_word (m := ⟨12, 6⟩) (meth := k12m6) (c := k12c6) (by decide +kernel) rfl rfl rfl (by decide +kernel)
set_option maxRecDepth 65536 in
theorem w_c36 : (Jvm.Cond.code ({ cls := "java/lang/StringUTF16", name := "newBytesFor", desc := "(I)[B" } : Jvm.MethodName) jdk_52_method_2_code (1 : Nat) (Option.some (Jvm.ClassFile.FieldType.array Jvm.ClassFile.FieldType.byte))).before args0 about1 = true := code_word (m := ⟨12, 1⟩) (meth := k12m1) (c := k12c1) (by decide +kernel) rfl rfl rfl (by decide +kernel)
set_option maxRecDepth 65536 in
theorem w_c37 : (Jvm.Cond.code ({ cls := "java/lang/StringUTF16", name := "newBytesLength", desc := "(I)I" } : Jvm.MethodName) jdk_52_method_3_code (1 : Nat) (Option.some Jvm.ClassFile.FieldType.int)).before args0 about1 = true := code_word (m := ⟨12, 2⟩) (meth := k12m2) (c := k12c2) (by decide +kernel) rfl rfl rfl (by decide +kernel)
set_option maxRecDepth 65536 in
theorem w_c38 : (Jvm.Cond.code ({ cls := "java/lang/StringUTF16", name := "putChar", desc := "([BII)V" } : Jvm.MethodName) jdk_52_method_4_code (3 : Nat) (Option.none : Option Jvm.ClassFile.FieldType)).before args0 about1 = true := code_word (m := ⟨12, 3⟩) (meth := k12m3) (c := k12c3) (by decide +kernel) rfl rfl rfl (by decide +kernel)
set_option maxRecDepth 65536 in
theorem w_c39 : (Jvm.Cond.code ({ cls := "java/lang/StringUTF16", name := "getChar", desc := "([BI)C" } : Jvm.MethodName) jdk_52_method_5_code (2 : Nat) (Option.some Jvm.ClassFile.FieldType.char)).before args0 about1 = true := code_word (m := ⟨12, 4⟩) (meth := k12m4) (c := k12c4) (by decide +kernel) rfl rfl rfl (by decide +kernel)
set_option maxRecDepth 65536 in
theorem w_c40 : (Jvm.Cond.code ({ cls := "java/lang/StringUTF16", name := "indexOf", desc := "([BIII)I" } : Jvm.MethodName) jdk_52_method_40_code (4 : Nat) (Option.some Jvm.ClassFile.FieldType.int)).before args0 about1 = true := code_word (m := ⟨12, 12⟩) (meth := k12m12) (c := k12c12) (by decide +kernel) rfl rfl rfl (by decide +kernel)
set_option maxRecDepth 65536 in
theorem w_c41 : (Jvm.Cond.code ({ cls := "java/lang/StringUTF16", name := "indexOfChar", desc := "([BIII)I" } : Jvm.MethodName) jdk_52_method_47_code (4 : Nat) (Option.some Jvm.ClassFile.FieldType.int)).before args0 about1 = true := code_word (m := ⟨12, 13⟩) (meth := k12m13) (c := k12c13) (by decide +kernel) rfl rfl rfl (by decide +kernel)
set_option maxRecDepth 65536 in
theorem w_c42 : (Jvm.Cond.code ({ cls := "java/lang/StringUTF16", name := "checkBoundsBeginEnd", desc := "(II[B)V" } : Jvm.MethodName) jdk_52_method_93_code (3 : Nat) (Option.none : Option Jvm.ClassFile.FieldType)).before args0 about1 = true := code_word (m := ⟨12, 18⟩) (meth := k12m18) (c := k12c18) (by decide +kernel) rfl rfl rfl (by decide +kernel)
set_option maxRecDepth 65536 in
theorem w_c43 : (Jvm.Cond.code ({ cls := "java/lang/StringUTF16", name := "length", desc := "([B)I" } : Jvm.MethodName) jdk_52_method_6_code (1 : Nat) (Option.some Jvm.ClassFile.FieldType.int)).before args0 about1 = true := code_word (m := ⟨12, 5⟩) (meth := k12m5) (c := k12c5) (by decide +kernel) rfl rfl rfl (by decide +kernel)
set_option maxRecDepth 65536 in
theorem w_c44 : (Jvm.Cond.code ({ cls := "java/lang/StringUTF16", name := "indexOfCharUnsafe", desc := "([BIII)I" } : Jvm.MethodName) jdk_52_method_48_code (5 : Nat) (Option.some Jvm.ClassFile.FieldType.int)).before args0 about1 = true := code_word (m := ⟨12, 14⟩) (meth := k12m14) (c := k12c14) (by decide +kernel) rfl rfl rfl (by decide +kernel)
set_option maxRecDepth 65536 in
theorem w_c45 : (Jvm.Cond.code ({ cls := "java/lang/StringUTF16", name := "newString", desc := "([BII)Ljava/lang/String;" } : Jvm.MethodName) jdk_52_method_69_code (5 : Nat) (Option.some (Jvm.ClassFile.FieldType.object "java/lang/String"))).before args0 about1 = true := code_word (m := ⟨12, 15⟩) (meth := k12m15) (c := k12c15) (by decide +kernel) rfl rfl rfl (by decide +kernel)
set_option maxRecDepth 65536 in
theorem w_c46 : (Jvm.Cond.code ({ cls := "java/lang/StringUTF16", name := "compress", desc := "([BII)[B" } : Jvm.MethodName) jdk_52_method_17_code (6 : Nat) (Option.some (Jvm.ClassFile.FieldType.array Jvm.ClassFile.FieldType.byte))).before args0 about1 = true := code_word (m := ⟨12, 9⟩) (meth := k12m9) (c := k12c9) (by decide +kernel) rfl rfl rfl (by decide +kernel)
set_option maxRecDepth 65536 in
theorem w_c47 : (Jvm.Cond.code ({ cls := "java/lang/StringUTF16", name := "compress", desc := "([BI[BII)I" } : Jvm.MethodName) jdk_52_method_22_code (7 : Nat) (Option.some Jvm.ClassFile.FieldType.int)).before args0 about1 = true := code_word (m := ⟨12, 11⟩) (meth := k12m11) (c := k12c11) (by decide +kernel) rfl rfl rfl (by decide +kernel)
set_option maxRecDepth 65536 in
theorem w_c48 : (Jvm.Cond.code ({ cls := "java/lang/StringUTF16", name := "checkBoundsOffCount", desc := "(II[B)V" } : Jvm.MethodName) jdk_52_method_94_code (3 : Nat) (Option.none : Option Jvm.ClassFile.FieldType)).before args0 about1 = true := code_word (m := ⟨12, 19⟩) (meth := k12m19) (c := k12c19) (by decide +kernel) rfl rfl rfl (by decide +kernel)
set_option maxRecDepth 65536 in
theorem w_c49 : (Jvm.Cond.code ({ cls := "java/lang/String", name := "checkBoundsOffCount", desc := "(III)I" } : Jvm.MethodName) jdk_42_method_157_code (3 : Nat) (Option.some Jvm.ClassFile.FieldType.int)).before args0 about1 = true := code_word (m := ⟨7, 13⟩) (meth := k7m13) (c := k7c13) (by decide +kernel) rfl rfl rfl (by decide +kernel)
set_option maxRecDepth 65536 in
theorem w_c50 : (Jvm.Cond.code ({ cls := "jdk/internal/util/Preconditions", name := "checkFromIndexSize", desc := "(IIILjava/util/function/BiFunction;)I" } : Jvm.MethodName) jdk_41_method_13_code (4 : Nat) (Option.some Jvm.ClassFile.FieldType.int)).before args0 about1 = true := code_word (m := ⟨13, 3⟩) (meth := k13m3) (c := k13c3) (by decide +kernel) rfl rfl rfl (by decide +kernel)
set_option maxRecDepth 65536 in
theorem w_c51 : (Jvm.Cond.code ({ cls := "java/lang/StringUTF16", name := "charAt", desc := "([BI)C" } : Jvm.MethodName) jdk_52_method_83_code (2 : Nat) (Option.some Jvm.ClassFile.FieldType.char)).before args0 about1 = true := code_word (m := ⟨12, 16⟩) (meth := k12m16) (c := k12c16) (by decide +kernel) rfl rfl rfl (by decide +kernel)
set_option maxRecDepth 65536 in
theorem w_c52 : (Jvm.Cond.code ({ cls := "java/lang/StringUTF16", name := "checkIndex", desc := "(I[B)V" } : Jvm.MethodName) jdk_52_method_91_code (2 : Nat) (Option.none : Option Jvm.ClassFile.FieldType)).before args0 about1 = true := code_word (m := ⟨12, 17⟩) (meth := k12m17) (c := k12c17) (by decide +kernel) rfl rfl rfl (by decide +kernel)
def codes1 : List Jvm.Cond := [Jvm.Cond.code x code maxLocals ret, Jvm.Cond.code ({ cls := "com/example/detangle/detangle/TestListCaseNamePinLaw", name := "draw", desc := "(I)C" } : Jvm.MethodName) method_3_code (1 : Nat) (Option.some Jvm.ClassFile.FieldType.char), Jvm.Cond.code ({ cls := "com/example/detangle/detangle/TestListCaseNamePinLaw", name := "make", desc := "([CI)Ljava/lang/String;" } : Jvm.MethodName) method_4_code (2 : Nat) (Option.some (Jvm.ClassFile.FieldType.object "java/lang/String")), Jvm.Cond.code ({ cls := "java/lang/String", name := "<init>", desc := "([C)V" } : Jvm.MethodName) jdk_42_method_3_code (2 : Nat) (Option.none : Option Jvm.ClassFile.FieldType), Jvm.Cond.code ({ cls := "java/lang/String", name := "<init>", desc := "([CIILjava/lang/Void;)V" } : Jvm.MethodName) jdk_42_method_149_code (6 : Nat) (Option.none : Option Jvm.ClassFile.FieldType), Jvm.Cond.code ({ cls := "java/lang/Object", name := "<init>", desc := "()V" } : Jvm.MethodName) object_method_1_code (1 : Nat) (Option.none : Option Jvm.ClassFile.FieldType), Jvm.Cond.code ({ cls := "com/example/detangle/detangle/TestList", name := "caseName", desc := "(Ljava/lang/String;)Ljava/lang/String;" } : Jvm.MethodName) prog_57_method_4_code (2 : Nat) (Option.some (Jvm.ClassFile.FieldType.object "java/lang/String")), Jvm.Cond.code ({ cls := "java/lang/String", name := "indexOf", desc := "(I)I" } : Jvm.MethodName) jdk_42_method_79_code (2 : Nat) (Option.some Jvm.ClassFile.FieldType.int), Jvm.Cond.code ({ cls := "java/lang/String", name := "indexOf", desc := "(II)I" } : Jvm.MethodName) jdk_42_method_80_code (3 : Nat) (Option.some Jvm.ClassFile.FieldType.int), Jvm.Cond.code ({ cls := "java/lang/String", name := "isLatin1", desc := "()Z" } : Jvm.MethodName) jdk_42_method_154_code (1 : Nat) (Option.some Jvm.ClassFile.FieldType.boolean), Jvm.Cond.code ({ cls := "java/lang/String", name := "length", desc := "()I" } : Jvm.MethodName) jdk_42_method_54_code (1 : Nat) (Option.some Jvm.ClassFile.FieldType.int), Jvm.Cond.code ({ cls := "java/lang/String", name := "coder", desc := "()B" } : Jvm.MethodName) jdk_42_method_152_code (1 : Nat) (Option.some Jvm.ClassFile.FieldType.byte), Jvm.Cond.code ({ cls := "java/lang/StringLatin1", name := "indexOf", desc := "([BIII)I" } : Jvm.MethodName) jdk_43_method_22_code (4 : Nat) (Option.some Jvm.ClassFile.FieldType.int), Jvm.Cond.code ({ cls := "java/lang/StringLatin1", name := "canEncode", desc := "(I)Z" } : Jvm.MethodName) jdk_43_method_4_code (1 : Nat) (Option.some Jvm.ClassFile.FieldType.boolean), Jvm.Cond.code ({ cls := "java/lang/Math", name := "max", desc := "(II)I" } : Jvm.MethodName) jdk_29_method_65_code (2 : Nat) (Option.some Jvm.ClassFile.FieldType.int), Jvm.Cond.code ({ cls := "java/lang/Math", name := "min", desc := "(II)I" } : Jvm.MethodName) jdk_29_method_69_code (2 : Nat) (Option.some Jvm.ClassFile.FieldType.int), Jvm.Cond.code ({ cls := "com/example/detangle/detangle/TestListCaseNamePinLaw", name := "firstHash", desc := "([CI)I" } : Jvm.MethodName) method_5_code (2 : Nat) (Option.some Jvm.ClassFile.FieldType.int), Jvm.Cond.code ({ cls := "com/example/detangle/detangle/TestListCaseNamePinLaw", name := "same", desc := "(Ljava/lang/String;[CII)Z" } : Jvm.MethodName) method_6_code (5 : Nat) (Option.some Jvm.ClassFile.FieldType.boolean), Jvm.Cond.code ({ cls := "java/lang/StringUTF16", name := "compress", desc := "([CII)[B" } : Jvm.MethodName) jdk_52_method_16_code (6 : Nat) (Option.some (Jvm.ClassFile.FieldType.array Jvm.ClassFile.FieldType.byte)), Jvm.Cond.code ({ cls := "java/lang/StringUTF16", name := "compress", desc := "([CI[BII)I" } : Jvm.MethodName) jdk_52_method_21_code (7 : Nat) (Option.some Jvm.ClassFile.FieldType.int), Jvm.Cond.code ({ cls := "java/lang/StringUTF16", name := "coderFromArrayLen", desc := "([BI)B" } : Jvm.MethodName) jdk_52_method_15_code (2 : Nat) (Option.some Jvm.ClassFile.FieldType.byte), Jvm.Cond.code ({ cls := "java/lang/StringLatin1", name := "indexOfChar", desc := "([BIII)I" } : Jvm.MethodName) jdk_43_method_23_code (6 : Nat) (Option.some Jvm.ClassFile.FieldType.int), Jvm.Cond.code ({ cls := "java/lang/String", name := "substring", desc := "(I)Ljava/lang/String;" } : Jvm.MethodName) jdk_42_method_91_code (2 : Nat) (Option.some (Jvm.ClassFile.FieldType.object "java/lang/String")), Jvm.Cond.code ({ cls := "java/lang/String", name := "substring", desc := "(II)Ljava/lang/String;" } : Jvm.MethodName) jdk_42_method_92_code (5 : Nat) (Option.some (Jvm.ClassFile.FieldType.object "java/lang/String")), Jvm.Cond.code ({ cls := "java/lang/String", name := "checkBoundsBeginEnd", desc := "(III)V" } : Jvm.MethodName) jdk_42_method_158_code (3 : Nat) (Option.none : Option Jvm.ClassFile.FieldType), Jvm.Cond.code ({ cls := "jdk/internal/util/Preconditions", name := "checkFromToIndex", desc := "(IIILjava/util/function/BiFunction;)I" } : Jvm.MethodName) jdk_41_method_12_code (4 : Nat) (Option.some Jvm.ClassFile.FieldType.int), Jvm.Cond.code ({ cls := "java/lang/StringLatin1", name := "newString", desc := "([BII)Ljava/lang/String;" } : Jvm.MethodName) jdk_43_method_47_code (3 : Nat) (Option.some (Jvm.ClassFile.FieldType.object "java/lang/String")), Jvm.Cond.code ({ cls := "java/util/Arrays", name := "copyOfRange", desc := "([BII)[B" } : Jvm.MethodName) jdk_65_method_132_code (3 : Nat) (Option.some (Jvm.ClassFile.FieldType.array Jvm.ClassFile.FieldType.byte)), Jvm.Cond.code ({ cls := "java/util/Arrays", name := "copyOfRangeByte", desc := "([BII)[B" } : Jvm.MethodName) jdk_65_method_133_code (5 : Nat) (Option.some (Jvm.ClassFile.FieldType.array Jvm.ClassFile.FieldType.byte)), Jvm.Cond.code ({ cls := "java/util/Arrays", name := "checkLength", desc := "(II)V" } : Jvm.MethodName) jdk_65_method_131_code (2 : Nat) (Option.none : Option Jvm.ClassFile.FieldType), Jvm.Cond.code ({ cls := "java/lang/String", name := "<init>", desc := "([BB)V" } : Jvm.MethodName) jdk_42_method_151_code (3 : Nat) (Option.none : Option Jvm.ClassFile.FieldType), Jvm.Cond.code ({ cls := "java/lang/String", name := "charAt", desc := "(I)C" } : Jvm.MethodName) jdk_42_method_56_code (2 : Nat) (Option.some Jvm.ClassFile.FieldType.char), Jvm.Cond.code ({ cls := "java/lang/StringLatin1", name := "charAt", desc := "([BI)C" } : Jvm.MethodName) jdk_43_method_2_code (2 : Nat) (Option.some Jvm.ClassFile.FieldType.char), Jvm.Cond.code ({ cls := "java/lang/String", name := "checkIndex", desc := "(II)V" } : Jvm.MethodName) jdk_42_method_155_code (2 : Nat) (Option.none : Option Jvm.ClassFile.FieldType), Jvm.Cond.code ({ cls := "jdk/internal/util/Preconditions", name := "checkIndex", desc := "(IILjava/util/function/BiFunction;)I" } : Jvm.MethodName) jdk_41_method_11_code (3 : Nat) (Option.some Jvm.ClassFile.FieldType.int), Jvm.Cond.code ({ cls := "java/lang/StringUTF16", name := "toBytes", desc := "([CII)[B" } : Jvm.MethodName) jdk_52_method_14_code (5 : Nat) (Option.some (Jvm.ClassFile.FieldType.array Jvm.ClassFile.FieldType.byte)), Jvm.Cond.code ({ cls := "java/lang/StringUTF16", name := "newBytesFor", desc := "(I)[B" } : Jvm.MethodName) jdk_52_method_2_code (1 : Nat) (Option.some (Jvm.ClassFile.FieldType.array Jvm.ClassFile.FieldType.byte)), Jvm.Cond.code ({ cls := "java/lang/StringUTF16", name := "newBytesLength", desc := "(I)I" } : Jvm.MethodName) jdk_52_method_3_code (1 : Nat) (Option.some Jvm.ClassFile.FieldType.int), Jvm.Cond.code ({ cls := "java/lang/StringUTF16", name := "putChar", desc := "([BII)V" } : Jvm.MethodName) jdk_52_method_4_code (3 : Nat) (Option.none : Option Jvm.ClassFile.FieldType), Jvm.Cond.code ({ cls := "java/lang/StringUTF16", name := "getChar", desc := "([BI)C" } : Jvm.MethodName) jdk_52_method_5_code (2 : Nat) (Option.some Jvm.ClassFile.FieldType.char), Jvm.Cond.code ({ cls := "java/lang/StringUTF16", name := "indexOf", desc := "([BIII)I" } : Jvm.MethodName) jdk_52_method_40_code (4 : Nat) (Option.some Jvm.ClassFile.FieldType.int), Jvm.Cond.code ({ cls := "java/lang/StringUTF16", name := "indexOfChar", desc := "([BIII)I" } : Jvm.MethodName) jdk_52_method_47_code (4 : Nat) (Option.some Jvm.ClassFile.FieldType.int), Jvm.Cond.code ({ cls := "java/lang/StringUTF16", name := "checkBoundsBeginEnd", desc := "(II[B)V" } : Jvm.MethodName) jdk_52_method_93_code (3 : Nat) (Option.none : Option Jvm.ClassFile.FieldType), Jvm.Cond.code ({ cls := "java/lang/StringUTF16", name := "length", desc := "([B)I" } : Jvm.MethodName) jdk_52_method_6_code (1 : Nat) (Option.some Jvm.ClassFile.FieldType.int), Jvm.Cond.code ({ cls := "java/lang/StringUTF16", name := "indexOfCharUnsafe", desc := "([BIII)I" } : Jvm.MethodName) jdk_52_method_48_code (5 : Nat) (Option.some Jvm.ClassFile.FieldType.int), Jvm.Cond.code ({ cls := "java/lang/StringUTF16", name := "newString", desc := "([BII)Ljava/lang/String;" } : Jvm.MethodName) jdk_52_method_69_code (5 : Nat) (Option.some (Jvm.ClassFile.FieldType.object "java/lang/String")), Jvm.Cond.code ({ cls := "java/lang/StringUTF16", name := "compress", desc := "([BII)[B" } : Jvm.MethodName) jdk_52_method_17_code (6 : Nat) (Option.some (Jvm.ClassFile.FieldType.array Jvm.ClassFile.FieldType.byte)), Jvm.Cond.code ({ cls := "java/lang/StringUTF16", name := "compress", desc := "([BI[BII)I" } : Jvm.MethodName) jdk_52_method_22_code (7 : Nat) (Option.some Jvm.ClassFile.FieldType.int), Jvm.Cond.code ({ cls := "java/lang/StringUTF16", name := "checkBoundsOffCount", desc := "(II[B)V" } : Jvm.MethodName) jdk_52_method_94_code (3 : Nat) (Option.none : Option Jvm.ClassFile.FieldType), Jvm.Cond.code ({ cls := "java/lang/String", name := "checkBoundsOffCount", desc := "(III)I" } : Jvm.MethodName) jdk_42_method_157_code (3 : Nat) (Option.some Jvm.ClassFile.FieldType.int), Jvm.Cond.code ({ cls := "jdk/internal/util/Preconditions", name := "checkFromIndexSize", desc := "(IIILjava/util/function/BiFunction;)I" } : Jvm.MethodName) jdk_41_method_13_code (4 : Nat) (Option.some Jvm.ClassFile.FieldType.int), Jvm.Cond.code ({ cls := "java/lang/StringUTF16", name := "charAt", desc := "([BI)C" } : Jvm.MethodName) jdk_52_method_83_code (2 : Nat) (Option.some Jvm.ClassFile.FieldType.char), Jvm.Cond.code ({ cls := "java/lang/StringUTF16", name := "checkIndex", desc := "(I[B)V" } : Jvm.MethodName) jdk_52_method_91_code (2 : Nat) (Option.none : Option Jvm.ClassFile.FieldType)]
set_option maxRecDepth 65536 in
theorem codes_eq : words1.filter isCode = codes1 := rfl
theorem w_codes : ∀ c ∈ words1.filter isCode, c.before args0 about1 = true := by
  rw [codes_eq]
  intro c hc
  simp only [codes1, List.mem_cons, List.not_mem_nil, or_false] at hc
  rcases hc with rfl | rfl | rfl | rfl | rfl | rfl | rfl | rfl | rfl | rfl | rfl | rfl | rfl | rfl | rfl | rfl | rfl | rfl | rfl | rfl | rfl | rfl | rfl | rfl | rfl | rfl | rfl | rfl | rfl | rfl | rfl | rfl | rfl | rfl | rfl | rfl | rfl | rfl | rfl | rfl | rfl | rfl | rfl | rfl | rfl | rfl | rfl | rfl | rfl | rfl | rfl | rfl | rfl
  · exact w_c0
  · exact w_c1
  · exact w_c2
  · exact w_c3
  · exact w_c4
  · exact w_c5
  · exact w_c6
  · exact w_c7
  · exact w_c8
  · exact w_c9
  · exact w_c10
  · exact w_c11
  · exact w_c12
  · exact w_c13
  · exact w_c14
  · exact w_c15
  · exact w_c16
  · exact w_c17
  · exact w_c18
  · exact w_c19
  · exact w_c20
  · exact w_c21
  · exact w_c22
  · exact w_c23
  · exact w_c24
  · exact w_c25
  · exact w_c26
  · exact w_c27
  · exact w_c28
  · exact w_c29
  · exact w_c30
  · exact w_c31
  · exact w_c32
  · exact w_c33
  · exact w_c34
  · exact w_c35
  · exact w_c36
  · exact w_c37
  · exact w_c38
  · exact w_c39
  · exact w_c40
  · exact w_c41
  · exact w_c42
  · exact w_c43
  · exact w_c44
  · exact w_c45
  · exact w_c46
  · exact w_c47
  · exact w_c48
  · exact w_c49
  · exact w_c50
  · exact w_c51
  · exact w_c52
set_option maxRecDepth 65536 in
theorem w_t1 : (words1.take 24).all (fun c => isCode c || c.before args0 about1) = true := by decide +kernel
set_option maxRecDepth 65536 in
theorem w_t2 : ((words1.drop 24).take 24).all (fun c => isCode c || c.before args0 about1) = true := by decide +kernel
set_option maxRecDepth 65536 in
theorem w_t3 : (((words1.drop 24).drop 24).take 24).all (fun c => isCode c || c.before args0 about1) = true := by decide +kernel
set_option maxRecDepth 65536 in
theorem w_t4 : ((((words1.drop 24).drop 24).drop 24).take 24).all (fun c => isCode c || c.before args0 about1) = true := by decide +kernel
set_option maxRecDepth 65536 in
theorem w_t5 : (((((words1.drop 24).drop 24).drop 24).drop 24).take 24).all (fun c => isCode c || c.before args0 about1) = true := by decide +kernel
set_option maxRecDepth 65536 in
theorem w_t6 : ((((((words1.drop 24).drop 24).drop 24).drop 24).drop 24).take 24).all (fun c => isCode c || c.before args0 about1) = true := by decide +kernel
set_option maxRecDepth 65536 in
theorem w_t7 : (((((((words1.drop 24).drop 24).drop 24).drop 24).drop 24).drop 24).take 24).all (fun c => isCode c || c.before args0 about1) = true := by decide +kernel
set_option maxRecDepth 65536 in
theorem w_t8 : ((((((((words1.drop 24).drop 24).drop 24).drop 24).drop 24).drop 24).drop 24).take 24).all (fun c => isCode c || c.before args0 about1) = true := by decide +kernel
set_option maxRecDepth 65536 in
theorem w_t9 : (((((((((words1.drop 24).drop 24).drop 24).drop 24).drop 24).drop 24).drop 24).drop 24).take 24).all (fun c => isCode c || c.before args0 about1) = true := by decide +kernel
set_option maxRecDepth 65536 in
theorem w_t10 : (((((((((words1.drop 24).drop 24).drop 24).drop 24).drop 24).drop 24).drop 24).drop 24).drop 24).all (fun c => isCode c || c.before args0 about1) = true := by decide +kernel
theorem w_tables : (allAtoms (Jvm.Cond.code x code maxLocals ret :: tables_1)).before args0 about1 = true := by
  rw [allAtoms_all]
  show words1.all (fun c => c.before args0 about1) = true
  refine all_split ?_ w_codes
  rw [← List.take_append_drop 24 words1, List.all_append, w_t1, ← List.take_append_drop 24 (words1.drop 24), List.all_append, w_t2, ← List.take_append_drop 24 ((words1.drop 24).drop 24), List.all_append, w_t3, ← List.take_append_drop 24 (((words1.drop 24).drop 24).drop 24), List.all_append, w_t4, ← List.take_append_drop 24 ((((words1.drop 24).drop 24).drop 24).drop 24), List.all_append, w_t5, ← List.take_append_drop 24 (((((words1.drop 24).drop 24).drop 24).drop 24).drop 24), List.all_append, w_t6, ← List.take_append_drop 24 ((((((words1.drop 24).drop 24).drop 24).drop 24).drop 24).drop 24), List.all_append, w_t7, ← List.take_append_drop 24 (((((((words1.drop 24).drop 24).drop 24).drop 24).drop 24).drop 24).drop 24), List.all_append, w_t8, ← List.take_append_drop 24 ((((((((words1.drop 24).drop 24).drop 24).drop 24).drop 24).drop 24).drop 24).drop 24), List.all_append, w_t9, w_t10]
  rfl
set_option maxRecDepth 65536 in
theorem w_rest : rest_1_c.before args0 about1 = true := by decide +kernel
set_option maxRecDepth 65536 in
theorem w_case : (Jvm.Cond.and given_1 narrow_1).before args0 about1 = true := by decide +kernel
set_option maxRecDepth 65536 in
theorem w_consts : constsHeld consts_1 about1 := Jvm.Lit.constsHeldB_iff.mp (by decide +kernel)
theorem w_applies : (headSpec (Jvm.Cond.code x code maxLocals ret :: tables_1) room_1).applies x e0.platform about1 = true :=
  (Spec.applies_iff w_frames).mpr ⟨w_running, w_runnable, w_alone, w_named, w_hears, w_ripe, w_room, w_tables⟩
theorem atStart : AtStart classFile x code maxLocals ret World_1 tables_1 room_1 Calls_1 rest_1 Pre_1 launch0 p0 e0 about1 theMethod args0 below0 :=
  ⟨lists_1, trivial, launch0.admits_env _ _ _, launch0.least_env, fairChoices_fair.cas, fairChoices_fair.clock, w_frames, w_args, w_heap, w_applies, ⟨w_consts, trivial⟩, w_rest, w_case⟩
end start1
theorem witness_1 : WitnessClaimed_1 := ⟨start1.p0, start1.e0, start1.about1, start1.theMethod, start1.args0, start1.below0, start1.atStart⟩
end Jvm.Pilot.@@N@@
