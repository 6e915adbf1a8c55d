import JvmDerived
import JvmDerived.Pilot.@@N@@Statement
import JvmDerived.Pilot.@@N@@Code
set_option linter.unusedVariables false
set_option linter.unusedSimpArgs false
namespace Jvm.RoadKit
open Sem ClassFile Op Lib Jvm.Stand Jvm.Free Jvm.LawKit
section New
variable {p : Program} {l : Launch} {e : Env} {R : Room} {s : State} {m : MethodId} {args : Array Value} {below : List Frame} {meth : Method} {c : Code} {T : State} {locs : List Loc} {cells slots : Nat}
theorem retI (X : Stand p l e R s m args below meth c T locs cells slots) (hx : p.tables.exec = Jvm.exec) {pc : Nat} {Ls : Array Slot} {z : Int32} {rest : List Value} (hret : meth.sig.returnType = some .int) (hd : decode c.code pc = .ok (.ireturn, 1)) {fs : List Frame}
    (hl : ∀ (f : JFrame) (acts : List Action), f.method = m → f.locked = none → f.entered = [] → (doReturn e (T.setTop f) acts (some (.int z))).1 = T.setFrames fs) : Steps p.tables e below (T.setTop (mkF m pc Ls (.int z :: rest))) (T.setFrames fs) := by
  have hm' : T.vm.method? m = some meth := X.method'
  have hn : narrow .int (.int z) = .int z := rfl
  show Steps p.tables e below (T.setTop { method := m, pc := pc, locals := Ls, stack := _ :: rest, locked := none }) _
  jvm_step X.here [X.here.top, hx, hd, hm', hret, hn]
  first | (intro acts; rw [hl _ acts rfl rfl rfl]) | rw [hl _ _ rfl rfl rfl]
  exact Steps.refl _
end New
end Jvm.RoadKit
@@BLOCK:NumsL.lean.txt@@
/- laws to paste: Road.eqW (cut by pick.py; bodies as the Statement names them) -/
namespace Jvm.Pilot.@@N@@
namespace StrChars
open Jvm Sem ClassFile Op Lib Jvm.Stand Jvm.Free.XT Jvm.Free.ALB Jvm.Free.JM Jvm.Free
open Jvm.Lib.Cold (StaticIs)
/-- the byte that i2b leaves of a char -/
def lo8 (x : Int32) : Int32 := x.toInt8.toInt32
theorem fits_lo8 (y : Int32) : fits .byte (.int (lo8 y)) = true := by
  have h1 := y.toInt8.le_toInt
  have h2 := y.toInt8.toInt_lt
  simp only [lo8, fits, Bool.and_eq_true, decide_eq_true_eq, Int32.le_iff_toInt_le, Int8.toInt_toInt32, show (-128 : Int32).toInt = -128 from by decide, show (127 : Int32).toInt = 127 from by decide]
  omega
def U16 : String := "java/lang/StringUTF16"
namespace Cmp5
def yN : MethodName := ⟨"java/lang/StringUTF16", "compress", "([CI[BII)I"⟩
abbrev yB : ByteArray := jdk_52_method_21_code
end Cmp5
namespace Cmp3
def yN : MethodName := ⟨"java/lang/StringUTF16", "compress", "([CII)[B"⟩
abbrev yB : ByteArray := jdk_52_method_16_code
end Cmp3
namespace CodL
def yN : MethodName := ⟨"java/lang/StringUTF16", "coderFromArrayLen", "([BI)B"⟩
abbrev yB : ByteArray := jdk_52_method_15_code
end CodL
namespace New4
def yN : MethodName := ⟨"java/lang/String", "<init>", "([CIILjava/lang/Void;)V"⟩
abbrev yB : ByteArray := jdk_42_method_149_code
end New4
namespace New1
def yN : MethodName := ⟨"java/lang/String", "<init>", "([C)V"⟩
abbrev yB : ByteArray := jdk_42_method_3_code
end New1
/-- the byte, read back as charAt reads it, is the char -/
theorem lo8_mask {x : Int32} (h0 : ¬ x < 0) (h1 : ¬ 255 < x) : lo8 x &&& 255 = x := by
  have t : ∀ k : Fin 256, lo8 (Int32.ofNat k.val) &&& 255 = Int32.ofNat k.val := by decide +kernel
  rw [Int32.lt_iff_toInt_lt] at h0 h1
  have e0 : (0 : Int32).toInt = 0 := rfl
  have e1 : (255 : Int32).toInt = 255 := rfl
  obtain ⟨k, hk⟩ : ∃ k : Nat, x.toInt = k := ⟨x.toInt.toNat, by omega⟩
  have hx : x = Int32.ofNat k := Int32.toInt_inj.mp (by rw [hk, Int32.toInt_ofNat_small (by omega)])
  rw [hx]
  exact t ⟨k, by omega⟩
end StrChars
namespace StrChars.Road
open Jvm Sem ClassFile Op Lib Jvm.Stand Jvm.Free Jvm.Free.XT
open Jvm.Lib.Cold (StaticIs)
abbrev ST : String := "java/lang/String"
/-- every table word that New1's law asks, flat -/
abbrev words : List Jvm.Cond := [.code New1.yN New1.yB 2 none, .initialized ST, .methodLink ST 27 New4.yN, .instanceMethod New4.yN,
  .code New4.yN New4.yB 6 none, .fieldLink ST 38 ST "COMPACT_STRINGS" "Z", .laysFinal ST ST "value" "[B", .fieldLink ST 9 ST "value" "[B", .laysFinal ST ST "coder" "B", .fieldLink ST 15 ST "coder" "B",
  .methodLink ST 1 Lib.objectInit, .instanceMethod Lib.objectInit, .code Lib.objectInit ⟨#[0xb1]⟩ 1 none, .methodLink ST 177 Cmp3.yN, .static Cmp3.yN, .methodLink ST 47 CodL.yN, .static CodL.yN,
  .code Cmp3.yN Cmp3.yB 6 (some (.array .byte)), .initialized U16, .arrayClass .byte, .methodLink U16 115 Cmp5.yN, .static Cmp5.yN, .code Cmp5.yN Cmp5.yB 7 (some .int), .code CodL.yN CodL.yB 2 (some .byte)]
end StrChars.Road
namespace StrChars
open Jvm Sem ClassFile Op Lib Jvm.Stand Jvm.Free.XT Jvm.Free.ALB Jvm.Free.JM Jvm.Free
open Jvm.Lib.Cold (StaticIs)
def hi8 (x : Int32) : Int32 := lo8 (x >>> ((8 : Int32) &&& 31))
/-- what StringUTF16.getChar makes of two bytes -/
def pairCh (u v : Int32) : Int32 := (((u &&& 255) <<< ((0 : Int32) &&& 31)) ||| ((v &&& 255) <<< ((8 : Int32) &&& 31))).toUInt32.toUInt16.toUInt32.toInt32
theorem lo8_and (x : Int32) : (lo8 x &&& 255).toBitVec.toNat = x.toBitVec.toNat % 256 := by
  have h : (lo8 x).toBitVec = (x.toBitVec.signExtend 8).signExtend 32 := by rw [lo8, Int8.toBitVec_toInt32, Int32.toBitVec_toInt8]
  rw [Int32.toBitVec_and, BitVec.toNat_and, h]
  have e : ((x.toBitVec.signExtend 8).signExtend 32).toNat % 256 = x.toBitVec.toNat % 256 := by
    rw [BitVec.toNat_signExtend]
    have hlt := x.toBitVec.isLt
    simp only [BitVec.toNat_setWidth, BitVec.toNat_signExtend]
    split <;> split <;> omega
  rw [← e]
  exact Nat.and_two_pow_sub_one_eq_mod _ 8
theorem pair_says {c : Int32} (h0 : ¬ c < 0) (h1 : ¬ 65535 < c) : pairCh (lo8 c) (hi8 c) = c := by
  rw [Int32.lt_iff_toInt_lt] at h0 h1
  have e0 : (0 : Int32).toInt = 0 := rfl
  have e1 : (65535 : Int32).toInt = 65535 := rfl
  have hc : c.toInt = c.toBitVec.toNat := by
    have := c.toBitVec.isLt
    have e : c.toInt = c.toBitVec.toInt := rfl
    rw [e] at h0 h1
    rw [e]
    rw [BitVec.toInt_eq_toNat_cond] at h0 h1 ⊢
    split at h0 <;> split <;> omega
  have hn : c.toBitVec.toNat < 65536 := by omega
  have a1 := lo8_and c
  have a2 : (hi8 c &&& 255).toBitVec.toNat = c.toBitVec.toNat / 256 := by
    rw [hi8, lo8_and]
    have e : ((8 : Int32) &&& 31) = 8 := by decide
    rw [e, Int32.toBitVec_shiftRight]
    have e2 : ((8 : Int32).toBitVec.smod 32) = 8#32 := by decide
    rw [e2, BitVec.sshiftRight_eq', BitVec.toNat_sshiftRight_of_msb_false (by rw [BitVec.msb_eq_false_iff_two_mul_lt]; omega)]
    show c.toBitVec.toNat >>> 8 % 256 = _
    rw [Nat.shiftRight_eq_div_pow]
    omega
  unfold pairCh
  apply Int32.toBitVec_inj.mp
  apply BitVec.eq_of_toNat_eq
  have f0 : ((0 : Int32) &&& 31) = 0 := by decide
  have f8 : ((8 : Int32) &&& 31) = 8 := by decide
  rw [f0, f8]
  have g : (((lo8 c &&& 255) <<< (0 : Int32)) ||| ((hi8 c &&& 255) <<< (8 : Int32))).toBitVec.toNat = c.toBitVec.toNat := by
    rw [Int32.toBitVec_or, Int32.toBitVec_shiftLeft, Int32.toBitVec_shiftLeft]
    have s0 : ((0 : Int32).toBitVec.smod 32) = 0#32 := by decide
    have s8 : ((8 : Int32).toBitVec.smod 32) = 8#32 := by decide
    rw [s0, s8, BitVec.toNat_or]
    simp only [BitVec.shiftLeft_eq', BitVec.toNat_shiftLeft, a1, a2]
    show (c.toBitVec.toNat % 256) <<< 0 % 2 ^ 32 ||| (c.toBitVec.toNat / 256) <<< 8 % 2 ^ 32 = _
    rw [Nat.shiftLeft_zero, Nat.mod_eq_of_lt (show c.toBitVec.toNat % 256 < 2 ^ 32 by omega), Nat.mod_eq_of_lt (show (c.toBitVec.toNat / 256) <<< 8 < 2 ^ 32 by rw [Nat.shiftLeft_eq]; omega), Nat.or_comm, ← Nat.shiftLeft_add_eq_or_of_lt (by omega), Nat.shiftLeft_eq]
    omega
  show BitVec.toNat (((((lo8 c &&& 255) <<< (0 : Int32)) ||| ((hi8 c &&& 255) <<< (8 : Int32))).toBitVec.setWidth 16).setWidth 32) = _
  rw [BitVec.toNat_setWidth, BitVec.toNat_setWidth, g]
  omega
end StrChars
namespace StrChars
open Jvm Sem ClassFile Op Lib Jvm.Stand Jvm.Free.XT Jvm.Free.ALB Jvm.Free.JM Jvm.Free
open Jvm.Lib.Cold (StaticIs)
/-- the array's cell V codes the n chars f 0 .. f (n - 1) by the coder cd, as the JDK does: coder 1 just where some char is above 255 -/
def Cod (cd : Int32) (n : Nat) (f : Nat → Int32) (V : Cell) : Prop := (cd = 0 ∧ V.slots.size = n ∧ ∀ j, j < n → V.slots[j]? = some (.int (lo8 (f j))) ∧ ¬ 255 < f j) ∨ (cd = 1 ∧ V.slots.size = 2 * n ∧ (∀ j, j < n → V.slots[2 * j]? = some (.int (lo8 (f j))) ∧ V.slots[2 * j + 1]? = some (.int (hi8 (f j)))) ∧ ∃ j, j < n ∧ 255 < f j)
/-- **x is a String of the n chars f 0 .. f (n - 1)**, Latin-1 or UTF-16; its array at t has the cell V -/
def Txt (x t : Addr) (V : Cell) (cd : Int32) (n : Nat) (f : Nat → Int32) (U : State) : Prop := Exact "java/lang/String" x U ∧ Has x "java/lang/String" "value" "[B" (.ref t) U ∧ Has x "java/lang/String" "coder" "B" (.int cd) U ∧ XT.Arr .byte t V U ∧ Cod cd n f V ∧ ∀ j, j < n → ¬ f j < 0 ∧ ¬ 65535 < f j
theorem Txt.mv {x t : Addr} {V : Cell} {cd : Int32} {n : Nat} {f : Nat → Int32} {U U' : State} (h : Txt x t V cd n f U) (hal : U.vm.Alike U'.vm) (hh : U'.heap = U.heap) : Txt x t V cd n f U' := ⟨h.1.mv hal hh, h.2.1.mv hal hh, h.2.2.1.mv hal hh, h.2.2.2.1.mv hal hh, h.2.2.2.2⟩
end StrChars
namespace StrChars.Road
open Jvm Sem ClassFile Op Lib Jvm.Stand Jvm.Free Jvm.Free.XT
open Jvm.Lib.Cold (StaticIs)
theorem consq {a : Array Value} {s : State} {c : Jvm.Cond} {L : List Jvm.Cond} (h0 : c.before a s = true) (h : ∀ w ∈ L, w.before a s = true) : ∀ w ∈ c :: L, w.before a s = true := fun w hw => (List.mem_cons.mp hw).elim (fun e => e ▸ h0) (h w)
/-- the bytes of the chars cs, low before high -/
def wideBytes : List Int32 → List Value
  | [] => []
  | c :: cs => .int (lo8 c) :: .int (hi8 c) :: wideBytes cs
theorem wide_lo (d : Value) : ∀ (cs : List Int32) (j : Nat), j < cs.length → (wideBytes cs).getD (2 * j) d = .int (lo8 (cs.getD j 0))
  | [], j, h => absurd h (Nat.not_lt_zero j)
  | c :: cs, 0, _ => rfl
  | c :: cs, j + 1, h => by
    have q := wide_lo d cs j (by simpa using h)
    rw [show 2 * (j + 1) = 2 * j + 1 + 1 from by omega]
    simpa [wideBytes] using q
theorem wide_hi (d : Value) : ∀ (cs : List Int32) (j : Nat), j < cs.length → (wideBytes cs).getD (2 * j + 1) d = .int (hi8 (cs.getD j 0))
  | [], j, h => absurd h (Nat.not_lt_zero j)
  | c :: cs, 0, _ => rfl
  | c :: cs, j + 1, h => by
    have q := wide_hi d cs j (by simpa using h)
    rw [show 2 * (j + 1) + 1 = 2 * j + 1 + 1 + 1 from by omega]
    simpa [wideBytes] using q
theorem low_at (d : Value) (cs : List Int32) (j : Nat) (h : j < cs.length) : (cs.map fun c => Value.int (lo8 c)).getD j d = .int (lo8 (cs.getD j 0)) := by
  simp [List.getD_eq_getElem?_getD, h]
/-- an array of N2 bytes vs codes the chars cs by the coder cd -/
def CodA (cs : List Int32) (cd N2 : Int32) (vs : List Value) : Prop := (cd = 0 ∧ N2 = Int32.ofNat cs.length ∧ vs = (cs.map fun c => Value.int (lo8 c)) ∧ ∀ c ∈ cs, ¬ 255 < c) ∨ (cd = 1 ∧ N2 = Int32.ofNat (2 * cs.length) ∧ vs = wideBytes cs ∧ ∃ c ∈ cs, 255 < c)
theorem CodA.cod {cs : List Int32} {cd N2 : Int32} {vs : List Value} {V : Cell} (h : CodA cs cd N2 vs) (hn : 2 * cs.length < 2 ^ 31) (hs : V.slots.size = N2.toNatClampNeg) (hv : RoadKit.Has V vs (.int 0)) : Cod cd cs.length (fun j => cs.getD j 0) V := by
  rcases h with ⟨rfl, rfl, rfl, h⟩ | ⟨rfl, rfl, rfl, c, hc, hw⟩
  · rw [n32 (by omega)] at hs
    exact Or.inl ⟨rfl, hs, fun j hj => ⟨by rw [hv j (by omega), low_at _ _ _ hj], by
      have e : cs.getD j 0 = cs[j] := by simp [List.getD_eq_getElem?_getD, hj]
      show ¬ 255 < cs.getD j 0
      rw [e]; exact h _ (List.getElem_mem _)⟩⟩
  · rw [n32 (by omega)] at hs
    obtain ⟨j, hj, rfl⟩ := List.getElem_of_mem hc
    exact Or.inr ⟨rfl, hs, fun j hj => ⟨by rw [hv _ (by omega), wide_lo _ _ _ hj], by rw [hv _ (by omega), wide_hi _ _ _ hj]⟩, j, hj, by
      have e : cs.getD j 0 = cs[j] := by simp [List.getD_eq_getElem?_getD, hj]
      show 255 < cs.getD j 0
      rw [e]; exact hw⟩
/-- an object of exactly java/lang/String, its two fields found: as the laws ask it -/
theorem strObj {Z U : State} {a0 : Array Value} {kI : Nat} (wi : (Jvm.Cond.instantiable ST kI).before a0 Z = true) (al : Z.vm.Alike U.vm) {x : Addr} {v0 c0 : Value} (E : RoadKit.Exa Z U.heap x ST) (V : RoadKit.Fld Z U.heap x ST "value" "[B" v0) (C : RoadKit.Fld Z U.heap x ST "coder" "B" c0) :
    ∃ (D : Cell) (fV fC : Field), Blank ST x D U ∧ Found ST "value" "[B" fV U ∧ Found ST "coder" "B" fC U ∧ D.slots[fV.slot]? = some v0 ∧ D.slots[fC.slot]? = some c0 ∧ RoadKit.slotOf Z ST "value" "[B" = fV.slot ∧ RoadKit.slotOf Z ST "coder" "B" = fC.slot := by
  obtain ⟨D, cfV, kV, iV, fV, hD, gV, stV, knV, obV, asV, slV⟩ := V
  obtain ⟨D', cfC, kC, iC, fC, hD', gC, stC, -, -, asC, slC⟩ := C
  cases hD.symm.trans hD'
  obtain ⟨D2, kD, e1, e2, e3, e4, e5⟩ := E
  cases hD.symm.trans e1
  obtain ⟨c2, k2, i1, i2, i3, -⟩ := Cond.instantiable_spec wi
  cases e2.symm.trans i1
  cases e3.symm.trans i2
  obtain ⟨kU, u1, u2⟩ := al.2.2 _ _ e3
  exact ⟨D, fV, fC, ⟨hD, ⟨knV, fun q hq => by rw [hq] at obV; cases obV⟩, by rw [al.findClass]; exact e2, kU, u1, by rw [u2]; exact i3, by rw [u2]; exact e5 i3⟩, ⟨SBG.found_only al ⟨cfV, kV, iV, gV⟩, stV⟩, ⟨SBG.found_only al ⟨cfC, kC, iC, gC⟩, stC⟩, slV, slC, by simp [RoadKit.slotOf, gV], by simp [RoadKit.slotOf, gC]⟩
theorem sta_is {Z U : State} (al : Z.vm.Alike U.vm) {C n d : String} {v : Value} (S : RoadKit.Sta Z U.heap C n d v) : StaticIs U C n d v := by
  obtain ⟨cfS, iS, kS, fS, st, cS, t1, t2, t3, t4, t5, t6, t7⟩ := S
  exact StaticIs.there (s := { Z with heap := U.heap }) ⟨cfS, iS, kS, fS, st, cS, t1, t2, t3, t4, t5, (fun q => by rw [q] at t6; cases t6), t7⟩ al rfl
end StrChars.Road
namespace StrChars
open Jvm Sem ClassFile Op Lib Jvm.Stand Jvm.Free.XT Jvm.Free.ALB Jvm.Free.JM Jvm.Free
open Jvm.Lib.Cold (StaticIs)
/-- what place i of a byte[]'s cell holds -/
def yv (A : Cell) (i : Nat) : Int32 := match A.slots[i]? with | some (.int x) => x | _ => 0
theorem yv_get {a : Addr} {A : Cell} {U : State} (h : XT.Arr .byte a A U) (ht : Typed .byte A) {i : Nat} (hi : i < A.slots.size) : A.slots[i]? = some (.int (yv A i)) := by
  have e := Array.getElem?_eq_getElem hi
  have f := ht i _ e
  unfold yv; rw [e]
  generalize A.slots[i] = v at f
  cases v <;> simp [fits] at f ⊢
/-- the two arrays are equal, place for place -/
def EqC (A B : Cell) : Prop := A.slots.size = B.slots.size ∧ ∀ i, i < A.slots.size → yv A i = yv B i
/-- a boolean that says whether p -/
def Says01 (q : Prop) (r : Option Value) (s u : State) : Prop := ∃ v : Int32, r = some (.int v) ∧ u.heap = s.heap ∧ ((v = 1 ∧ q) ∨ (v = 0 ∧ ¬ q))
theorem Says01.mv {q : Prop} : ∀ r (U U' V V' : State), U'.heap = U.heap → V.vm.Alike V'.vm → V'.heap = V.heap → Says01 q r U V → Says01 q r U' V' :=
  fun r U U' V V' h1 _ h2 ⟨v, a, b, c⟩ => ⟨v, a, by rw [h1, h2]; exact b, c⟩
namespace LEq
def yN : MethodName := ⟨"java/lang/StringLatin1", "equals", "([B[B)Z"⟩
abbrev yB : ByteArray := jdk_43_method_13_code
theorem d0 : decode yB 0 = .ok (.aload_n 0, 1) := by decide +kernel
theorem d1 : decode yB 1 = .ok (.arraylength, 1) := by decide +kernel
theorem d2 : decode yB 2 = .ok (.aload_n 1, 1) := by decide +kernel
theorem d3 : decode yB 3 = .ok (.arraylength, 1) := by decide +kernel
theorem d4 : decode yB 4 = .ok (.if_icmp (.ne) 30, 3) := by decide +kernel
theorem d7 : decode yB 7 = .ok (.iconst 0, 1) := by decide +kernel
theorem d8 : decode yB 8 = .ok (.istore_n 2, 1) := by decide +kernel
theorem d9 : decode yB 9 = .ok (.iload_n 2, 1) := by decide +kernel
theorem d10 : decode yB 10 = .ok (.aload_n 0, 1) := by decide +kernel
theorem d11 : decode yB 11 = .ok (.arraylength, 1) := by decide +kernel
theorem d12 : decode yB 12 = .ok (.if_icmp (.ge) 20, 3) := by decide +kernel
theorem d15 : decode yB 15 = .ok (.aload_n 0, 1) := by decide +kernel
theorem d16 : decode yB 16 = .ok (.iload_n 2, 1) := by decide +kernel
theorem d17 : decode yB 17 = .ok (.baload, 1) := by decide +kernel
theorem d18 : decode yB 18 = .ok (.aload_n 1, 1) := by decide +kernel
theorem d19 : decode yB 19 = .ok (.iload_n 2, 1) := by decide +kernel
theorem d20 : decode yB 20 = .ok (.baload, 1) := by decide +kernel
theorem d21 : decode yB 21 = .ok (.if_icmp (.eq) 5, 3) := by decide +kernel
theorem d24 : decode yB 24 = .ok (.iconst 0, 1) := by decide +kernel
theorem d25 : decode yB 25 = .ok (.ireturn, 1) := by decide +kernel
theorem d26 : decode yB 26 = .ok (.iinc 2 1, 3) := by decide +kernel
theorem d29 : decode yB 29 = .ok (.goto (-20), 3) := by decide +kernel
theorem d32 : decode yB 32 = .ok (.iconst 1, 1) := by decide +kernel
theorem d33 : decode yB 33 = .ok (.ireturn, 1) := by decide +kernel
theorem d34 : decode yB 34 = .ok (.iconst 0, 1) := by decide +kernel
theorem d35 : decode yB 35 = .ok (.ireturn, 1) := by decide +kernel
def site : List Cond := []
def tab : Cond := tabOf yN yB 3 (some .boolean) site
def P (a : Addr) (A : Cell) (b : Addr) (B : Cell) (args : Array Value) (s : State) : Prop := args = #[.ref a, .ref b] ∧ XT.Arr .byte a A s ∧ Typed .byte A ∧ XT.Arr .byte b B s ∧ Typed .byte B
/-- whether two byte[] are equal, place for place -/
theorem law (l : Launch) (a : Addr) (A : Cell) (b : Addr) (B : Cell) : Law l yN 2 2 0 0 yB 3 (some .boolean) site (P a A b B) (Says01 (EqC A B)) [] 0 0 := by
  refine Law.of_walk (plainFor_of_name (by decide +kernel)) (by decide +kernel) (by decide +kernel) (by decide) (fun _ _ h => by rw [h.1]; rfl) (fun _ U U' hal hh h => ⟨h.1, h.2.1.mv hal hh, h.2.2.1, h.2.2.2.1.mv hal hh, h.2.2.2.2⟩) (fun r U U' V V' h1 hal h2 h => Says01.mv r U U' V V' h1 hal h2 h) ?_
  intro p e s m args below meth c s₁ X0 hexec hbytes hml hret hlk hnm hown hh0 W hP
  obtain ⟨rfl, hA, tA, hB, tB⟩ := hP
  have a31 := hA.2.2.2
  have b31 := hB.2.2.2
  have hA0 := hA.mv X0.warmed.alike hh0
  have hB0 := hB.mv X0.warmed.alike hh0
  have c1 : Steps p.tables e below (s₁.setTop (entryFrame m #[.ref a, .ref b] 3)) (s₁.setTop (mkF m 0 #[.val (.ref a), .val (.ref b), .unset] [])) := entry rfl
  have c2 : Steps p.tables e below (s₁.setTop (entryFrame m #[.ref a, .ref b] 3)) (s₁.setTop (mkF m 4 #[.val (.ref a), .val (.ref b), .unset] [.int (Int32.ofNat B.slots.size), .int (Int32.ofNat A.slots.size)])) := c1.trans (by
    refine XS.aloadN X0.here hexec rfl (hb hbytes d0) rfl rfl ?_
    refine X0.alen hexec hA0 rfl rfl (hb hbytes d1) ?_
    refine XS.aloadN X0.here hexec rfl (hb hbytes d2) rfl rfl ?_
    refine X0.alen hexec hB0 rfl rfl (hb hbytes d3) ?_
    exact Steps.refl _)
  by_cases hs : A.slots.size = B.slots.size
  · have c3 : Steps p.tables e below (s₁.setTop (entryFrame m #[.ref a, .ref b] 3)) (s₁.setTop (mkF m 9 #[.val (.ref a), .val (.ref b), .val (.int 0)] [])) := c2.trans (by
      refine XS.icmpNo X0.here hexec rfl (hb hbytes d4) rfl (ii_ne_f (by rw [hs])) ?_
      refine iconstV X0.here hexec rfl 0 (hb hbytes d7) (by decide) ?_
      refine XS.istoreN X0.here hexec rfl (hb hbytes d8) rfl rfl ?_
      exact Steps.refl _)
    have loop : ∀ (r i : Nat), i + r = A.slots.size → (∀ j, j < i → yv A j = yv B j) → Steps p.tables e below (s₁.setTop (entryFrame m #[.ref a, .ref b] 3)) (s₁.setTop (mkF m 9 #[.val (.ref a), .val (.ref b), .val (.int (Int32.ofNat i))] [])) → ∃ (pc : Nat) (Ls : Array Slot) (v : Int32), (pc = 25 ∨ pc = 33) ∧ ((v = 1 ∧ EqC A B) ∨ (v = 0 ∧ ¬ EqC A B)) ∧ Steps p.tables e below (s₁.setTop (entryFrame m #[.ref a, .ref b] 3)) (s₁.setTop (mkF m pc Ls [.int v])) := by
      intro r
      induction r with
      | zero =>
        intro i hi he cl
        exact ⟨33, _, 1, Or.inr rfl, Or.inl ⟨rfl, hs, fun j hj => he j (by omega)⟩, cl.trans (by
          refine XS.iloadN X0.here hexec rfl (hb hbytes d9) rfl ?_
          refine XS.aloadN X0.here hexec rfl (hb hbytes d10) rfl rfl ?_
          refine X0.alen hexec hA0 rfl rfl (hb hbytes d11) ?_
          refine XS.icmpYes X0.here hexec rfl (pc0 := 12) rfl (hb hbytes d12) rfl (ii_ge_t (nlt32 (by omega) (by omega))) (by decide) rfl ?_
          refine iconstV X0.here hexec rfl 1 (hb hbytes d32) (by decide) ?_
          exact Steps.refl _)⟩
      | succ r ih =>
        intro i hi he cl
        have c4 : Steps p.tables e below (s₁.setTop (entryFrame m #[.ref a, .ref b] 3)) (s₁.setTop (mkF m 21 #[.val (.ref a), .val (.ref b), .val (.int (Int32.ofNat i))] [.int (yv B i), .int (yv A i)])) := cl.trans (by
          refine XS.iloadN X0.here hexec rfl (hb hbytes d9) rfl ?_
          refine XS.aloadN X0.here hexec rfl (hb hbytes d10) rfl rfl ?_
          refine X0.alen hexec hA0 rfl rfl (hb hbytes d11) ?_
          refine XS.icmpNo X0.here hexec rfl (hb hbytes d12) rfl (ii_ge_f (lt32 (by omega) (by omega))) ?_
          refine XS.aloadN X0.here hexec rfl (hb hbytes d15) rfl rfl ?_
          refine XS.iloadN X0.here hexec rfl (hb hbytes d16) rfl ?_
          refine X0.aget hexec hA0 rfl (yv_get hA tA (i := i) (by omega)) rfl rfl (hb hbytes d17) ?_
          refine XS.aloadN X0.here hexec rfl (hb hbytes d18) rfl rfl ?_
          refine XS.iloadN X0.here hexec rfl (hb hbytes d19) rfl ?_
          refine X0.aget hexec hB0 rfl (yv_get hB tB (i := i) (by omega)) rfl rfl (hb hbytes d20) ?_
          exact Steps.refl _)
        by_cases hv : yv A i = yv B i
        · have c5 : Steps p.tables e below (s₁.setTop (entryFrame m #[.ref a, .ref b] 3)) (s₁.setTop (mkF m 9 #[.val (.ref a), .val (.ref b), .val (.int (Int32.ofNat i + 1))] [])) := c4.trans (by
            refine XS.icmpYes X0.here hexec rfl (pc0 := 21) rfl (hb hbytes d21) rfl (ii_eq_t hv) (by decide) rfl ?_
            refine iincV X0.here hexec rfl 1 (hb hbytes d26) (by decide) rfl rfl ?_
            refine XS.goto X0.here hexec rfl (pc0 := 29) rfl (hb hbytes d29) (by decide) rfl ?_
            exact Steps.refl _)
          rw [succ32] at c5
          exact ih (i + 1) (by omega) (fun j hj => by
            by_cases e : j = i
            · rw [e]; exact hv
            · exact he j (by omega)) c5
        · exact ⟨25, _, 0, Or.inl rfl, Or.inr ⟨rfl, fun q => hv (q.2 i (by omega))⟩, c4.trans (by
            refine XS.icmpNo X0.here hexec rfl (hb hbytes d21) rfl (ii_eq_f hv) ?_
            refine iconstV X0.here hexec rfl 0 (hb hbytes d24) (by decide) ?_
            exact Steps.refl _)⟩
    obtain ⟨pc, Ls, v, hpc, hv, cz⟩ := loop A.slots.size 0 (by omega) (fun j hj => absurd hj (Nat.not_lt_zero j)) c3
    have nv : narrow .boolean (.int v) = .int v := by rcases hv with ⟨rfl, -⟩ | ⟨rfl, -⟩ <;> rfl
    rcases hpc with rfl | rfl
    · exact ⟨s₁, some (.int v), _, _, _, X0, rfl, rfl, rfl, (fun h => by cases h), ⟨v, rfl, hh0, hv⟩, fun fs hl => cz.trans (X0.ireturnOut hexec hret nv (Or.inr (Or.inl rfl)) (hb hbytes d25) hl)⟩
    · exact ⟨s₁, some (.int v), _, _, _, X0, rfl, rfl, rfl, (fun h => by cases h), ⟨v, rfl, hh0, hv⟩, fun fs hl => cz.trans (X0.ireturnOut hexec hret nv (Or.inr (Or.inl rfl)) (hb hbytes d33) hl)⟩
  · have c3 : Steps p.tables e below (s₁.setTop (entryFrame m #[.ref a, .ref b] 3)) (s₁.setTop (mkF m 35 #[.val (.ref a), .val (.ref b), .unset] [.int 0])) := c2.trans (by
      refine XS.icmpYes X0.here hexec rfl (pc0 := 4) rfl (hb hbytes d4) rfl (ii_ne_t (ne32 a31 b31 hs)) (by decide) rfl ?_
      refine iconstV X0.here hexec rfl 0 (hb hbytes d34) (by decide) ?_
      exact Steps.refl _)
    exact ⟨s₁, some (.int 0), _, _, _, X0, rfl, rfl, rfl, (fun h => by cases h), ⟨0, rfl, hh0, Or.inr ⟨rfl, fun q => hs q.1⟩⟩, fun fs hl => c3.trans (X0.ireturnOut hexec hret rfl (Or.inr (Or.inl rfl)) (hb hbytes d35) hl)⟩
end LEq
theorem Cod.ty {cd : Int32} {n : Nat} {f : Nat → Int32} {V : Cell} (h : Cod cd n f V) : Typed .byte V := fun i v hv => by
  have hi : i < V.slots.size := (Array.getElem?_eq_some_iff.mp hv).1
  rcases h with ⟨-, k1, k2⟩ | ⟨-, k1, k2, -⟩
  · rw [(k2 i (by omega)).1] at hv; cases hv; exact fits_lo8 _
  · rcases Nat.mod_two_eq_zero_or_one i with e | e
    · obtain ⟨j, rfl⟩ : ∃ j, i = 2 * j := ⟨i / 2, by omega⟩
      rw [(k2 j (by omega)).1] at hv; cases hv; exact fits_lo8 _
    · obtain ⟨j, rfl⟩ : ∃ j, i = 2 * j + 1 := ⟨i / 2, by omega⟩
      rw [(k2 j (by omega)).2] at hv; cases hv; exact fits_lo8 _
/-- the same text -/
def SameT (n : Nat) (f : Nat → Int32) (k : Nat) (g : Nat → Int32) : Prop := n = k ∧ ∀ j, j < n → f j = g j
theorem lo8_inj {x y : Int32} (h0 : ¬ x < 0) (h1 : ¬ 255 < x) (k0 : ¬ y < 0) (k1 : ¬ 255 < y) (h : lo8 x = lo8 y) : x = y := by
  rw [← lo8_mask h0 h1, ← lo8_mask k0 k1, h]
/-- arrays coded by one coder are equal just where the texts are -/
theorem Cod.eqv {cd : Int32} {n k : Nat} {f g : Nat → Int32} {V V' : Cell} (h : Cod cd n f V) (h' : Cod cd k g V') (hf : ∀ j, j < n → ¬ f j < 0 ∧ ¬ 65535 < f j) (hg : ∀ j, j < k → ¬ g j < 0 ∧ ¬ 65535 < g j) : EqC V V' ↔ SameT n f k g := by
  have yvv : ∀ {W : Cell} {i : Nat} {x : Int32}, W.slots[i]? = some (.int x) → yv W i = x := fun q => by unfold yv; rw [q]
  rcases h with ⟨rfl, k1, k2⟩ | ⟨rfl, k1, k2, -⟩
  · rcases h' with ⟨-, m1, m2⟩ | ⟨e, -⟩
    · constructor
      · rintro ⟨e1, e2⟩
        refine ⟨by omega, fun j hj => ?_⟩
        have q := e2 j (by omega)
        rw [yvv (k2 j hj).1, yvv (m2 j (by omega)).1] at q
        exact lo8_inj (hf j hj).1 (k2 j hj).2 (hg j (by omega)).1 (m2 j (by omega)).2 q
      · rintro ⟨rfl, e2⟩
        refine ⟨by omega, fun j hj => ?_⟩
        rw [yvv (k2 j (by omega)).1, yvv (m2 j (by omega)).1, e2 j (by omega)]
    · exact absurd e (by decide)
  · rcases h' with ⟨e, -⟩ | ⟨-, m1, m2, -⟩
    · exact absurd e (by decide)
    · constructor
      · rintro ⟨e1, e2⟩
        refine ⟨by omega, fun j hj => ?_⟩
        have q1 := e2 (2 * j) (by omega)
        have q2 := e2 (2 * j + 1) (by omega)
        rw [yvv (k2 j hj).1, yvv (m2 j (by omega)).1] at q1
        rw [yvv (k2 j hj).2, yvv (m2 j (by omega)).2] at q2
        rw [← pair_says (hf j hj).1 (hf j hj).2, ← pair_says (hg j (by omega)).1 (hg j (by omega)).2, q1, q2]
      · rintro ⟨rfl, e2⟩
        refine ⟨by omega, fun i hi => ?_⟩
        rcases Nat.mod_two_eq_zero_or_one i with e | e
        · obtain ⟨j, rfl⟩ : ∃ j, i = 2 * j := ⟨i / 2, by omega⟩
          rw [yvv (k2 j (by omega)).1, yvv (m2 j (by omega)).1, e2 j (by omega)]
        · obtain ⟨j, rfl⟩ : ∃ j, i = 2 * j + 1 := ⟨i / 2, by omega⟩
          rw [yvv (k2 j (by omega)).2, yvv (m2 j (by omega)).2, e2 j (by omega)]
/-- two codings differ: so do the texts -/
theorem Cod.dif {cd cd' : Int32} {n k : Nat} {f g : Nat → Int32} {V V' : Cell} (h : Cod cd n f V) (h' : Cod cd' k g V') (hne : ¬ cd = cd') : ¬ SameT n f k g := by
  rintro ⟨rfl, e⟩
  rcases h with ⟨rfl, -, k2⟩ | ⟨rfl, -, -, j, hj, hw⟩
  · rcases h' with ⟨rfl, -⟩ | ⟨-, -, -, j, hj, hw⟩
    · exact hne rfl
    · exact (k2 j hj).2 (by rw [e j hj]; exact hw)
  · rcases h' with ⟨-, -, m2⟩ | ⟨rfl, -⟩
    · exact (m2 j hj).2 (by rw [← e j hj]; exact hw)
    · exact hne rfl
/-- an object of exactly C is an instance of C -/
theorem cinst {p : Program} {l : Launch} {e : Env} {R : Room} {s : State} {m : MethodId} {args : Array Value} {below : List Frame} {meth : Method} {c : Code} {T : State} {locs : List Loc} {cells slots : Nat} (X : Stand p l e R s m args below meth c T locs cells slots) (hexec : p.tables.exec = Jvm.exec) {own C : String} {index : Nat} (hown : s.vm.findClass own = some m.cls) (hlink : (Cond.classLink own index C).before args s = true) {a : Addr} (hE : Exact C a T)
    {g : JFrame} (hg : g.method = m) {rest : List Value} (hstack : g.stack = .ref a :: rest) (hdg : decode c.code g.pc = .ok (.instanceof index, 3)) :
    ∃ T', Stand p l e R s m args below meth c T' locs cells slots ∧ T'.heap = T.heap ∧ ∀ target, Steps p.tables e below (T'.setTop { g with pc := g.pc + 3, stack := .int 1 :: rest }) target → Steps p.tables e below (T.setTop g) target := by
  obtain ⟨cB, h1, D, h2, h3, h4⟩ := hE
  have h1' : s.vm.findClass C = some cB := by rw [← X.warmed.alike.findClass]; exact h1
  obtain ⟨vm', X', st⟩ := X.instanceofYes hexec hown hlink h2 h4 h1' (by rw [h3]; exact Jvm.Free.SB.assignable_self _ _) hg hstack hdg
  exact ⟨_, X', rfl, st⟩
theorem cself {p : Program} {l : Launch} {e : Env} {R : Room} {s : State} {m : MethodId} {args : Array Value} {below : List Frame} {meth : Method} {c : Code} {T : State} {locs : List Loc} {cells slots : Nat} (X : Stand p l e R s m args below meth c T locs cells slots) (hexec : p.tables.exec = Jvm.exec) {own C : String} {index : Nat} (hown : s.vm.findClass own = some m.cls) (hlink : (Cond.classLink own index C).before args s = true) {a : Addr} (hE : Exact C a T)
    {g : JFrame} (hg : g.method = m) {rest : List Value} (hstack : g.stack = .ref a :: rest) (hdg : decode c.code g.pc = .ok (.checkcast index, 3)) :
    ∃ T', Stand p l e R s m args below meth c T' locs cells slots ∧ T'.heap = T.heap ∧ ∀ target, Steps p.tables e below (T'.setTop { g with pc := g.pc + 3, stack := .ref a :: rest }) target → Steps p.tables e below (T.setTop g) target := by
  obtain ⟨cB, h1, D, h2, h3, h4⟩ := hE
  have h1' : s.vm.findClass C = some cB := by rw [← X.warmed.alike.findClass]; exact h1
  obtain ⟨vm', X', st⟩ := X.checkcastYes hexec hown hlink h2 h4 h1' (by rw [h3]; exact Jvm.Free.SB.assignable_self _ _) hg hstack hdg
  exact ⟨_, X', rfl, fun t h => st t (by rw [← hstack] at h; exact h)⟩
namespace SEq
def yN : MethodName := ⟨"java/lang/String", "equals", "(Ljava/lang/Object;)Z"⟩
abbrev yB : ByteArray := jdk_42_method_66_code
theorem d0 : decode yB 0 = .ok (.aload_n 0, 1) := by decide +kernel
theorem d1 : decode yB 1 = .ok (.aload_n 1, 1) := by decide +kernel
theorem d2 : decode yB 2 = .ok (.if_acmp (.ne) 5, 3) := by decide +kernel
theorem d5 : decode yB 5 = .ok (.iconst 1, 1) := by decide +kernel
theorem d6 : decode yB 6 = .ok (.ireturn, 1) := by decide +kernel
theorem d7 : decode yB 7 = .ok (.aload_n 1, 1) := by decide +kernel
theorem d8 : decode yB 8 = .ok (.instanceof 10, 3) := by decide +kernel
theorem d11 : decode yB 11 = .ok (.ifCond (.eq) 43, 3) := by decide +kernel
theorem d14 : decode yB 14 = .ok (.aload_n 1, 1) := by decide +kernel
theorem d15 : decode yB 15 = .ok (.checkcast 10, 3) := by decide +kernel
theorem d18 : decode yB 18 = .ok (.astore_n 2, 1) := by decide +kernel
theorem d19 : decode yB 19 = .ok (.getstatic 38, 3) := by decide +kernel
theorem d22 : decode yB 22 = .ok (.ifCond (.eq) 14, 3) := by decide +kernel
theorem d25 : decode yB 25 = .ok (.aload_n 0, 1) := by decide +kernel
theorem d26 : decode yB 26 = .ok (.getfield 15, 3) := by decide +kernel
theorem d29 : decode yB 29 = .ok (.aload_n 2, 1) := by decide +kernel
theorem d30 : decode yB 30 = .ok (.getfield 15, 3) := by decide +kernel
theorem d33 : decode yB 33 = .ok (.if_icmp (.ne) 21, 3) := by decide +kernel
theorem d36 : decode yB 36 = .ok (.aload_n 0, 1) := by decide +kernel
theorem d37 : decode yB 37 = .ok (.getfield 9, 3) := by decide +kernel
theorem d40 : decode yB 40 = .ok (.aload_n 2, 1) := by decide +kernel
theorem d41 : decode yB 41 = .ok (.getfield 9, 3) := by decide +kernel
theorem d44 : decode yB 44 = .ok (.invokestatic 541, 3) := by decide +kernel
theorem d47 : decode yB 47 = .ok (.ifCond (.eq) 7, 3) := by decide +kernel
theorem d50 : decode yB 50 = .ok (.iconst 1, 1) := by decide +kernel
theorem d51 : decode yB 51 = .ok (.goto 4, 3) := by decide +kernel
theorem d54 : decode yB 54 = .ok (.iconst 0, 1) := by decide +kernel
theorem d55 : decode yB 55 = .ok (.ireturn, 1) := by decide +kernel
def site : List Cond := [.classLink "java/lang/String" 10 "java/lang/String", .fieldLink "java/lang/String" 38 "java/lang/String" "COMPACT_STRINGS" "Z", .fieldLink "java/lang/String" 15 "java/lang/String" "coder" "B", .fieldLink "java/lang/String" 9 "java/lang/String" "value" "[B", LEq.tab] ++ staticW "java/lang/String" 541 LEq.yN
def tab : Cond := tabOf yN yB 3 (some .boolean) site
def P (x t : Addr) (V : Cell) (cd : Int32) (n : Nat) (f : Nat → Int32) (y t' : Addr) (V' : Cell) (cd' : Int32) (k : Nat) (g : Nat → Int32) (z : Int32) (args : Array Value) (s : State) : Prop := args = #[.ref x, .ref y] ∧ Txt x t V cd n f s ∧ Txt y t' V' cd' k g s ∧ StaticIs s "java/lang/String" "COMPACT_STRINGS" "Z" (.int z) ∧ ¬ z = 0
/-- equals(Object) of two Strings: whether the texts are the same -/
theorem law (l : Launch) (x t : Addr) (V : Cell) (cd : Int32) (n : Nat) (f : Nat → Int32) (y t' : Addr) (V' : Cell) (cd' : Int32) (k : Nat) (g : Nat → Int32) (z : Int32) : Law l yN 2 1 1 14 yB 3 (some .boolean) site (P x t V cd n f y t' V' cd' k g z) (Says01 (SameT n f k g)) [] 0 0 := by
  refine Law.of_walk (plainFor_of_name (by decide +kernel)) (by decide +kernel) (by decide +kernel) (by decide) (fun _ _ h => by rw [h.1]; rfl) (fun _ U U' hal hh h => ⟨h.1, h.2.1.mv hal hh, h.2.2.1.mv hal hh, h.2.2.2.1.there hal hh, h.2.2.2.2⟩) (fun r U U' V V' h1 hal h2 h => Says01.mv r U U' V V' h1 hal h2 h) ?_
  intro p e s m args below meth c s₁ X0 hexec hbytes hml hret hlk hnm hown hh0 W hP
  obtain ⟨rfl, hx, hy, s1, hz⟩ := hP
  have c1 : Steps p.tables e below (s₁.setTop (entryFrame m #[.ref x, .ref y] 3)) (s₁.setTop (mkF m 2 #[.val (.ref x), .val (.ref y), .unset] [.ref y, .ref x])) := Steps.trans (entry rfl) (by
    show Steps p.tables e below (s₁.setTop (mkF m 0 #[.val (.ref x), .val (.ref y), .unset] [])) _
    refine XS.aloadN X0.here hexec rfl (hb hbytes d0) rfl rfl ?_
    refine XS.aloadN X0.here hexec rfl (hb hbytes d1) rfl rfl ?_
    exact Steps.refl _)
  by_cases hxy : x = y
  · have c2 : Steps p.tables e below (s₁.setTop (entryFrame m #[.ref x, .ref y] 3)) (s₁.setTop (mkF m 6 #[.val (.ref x), .val (.ref y), .unset] [.int 1])) := c1.trans (by
      refine acmpNo X0.here hexec rfl (hb hbytes d2) rfl rfl rfl (by simp [acmp, hxy]) ?_
      refine iconstV X0.here hexec rfl 1 (hb hbytes d5) (by decide) ?_
      exact Steps.refl _)
    subst hxy
    have ec : cd = cd' := by
      obtain ⟨D, fd, a1, a2, a3⟩ := hx.2.2.1
      obtain ⟨D', fd', b1, b2, b3⟩ := hy.2.2.1
      cases a1.symm.trans b1
      obtain ⟨q1, q2, q3, q4⟩ := a2.1
      obtain ⟨r1, r2, r3, r4⟩ := b2.1
      cases q4.symm.trans r4
      cases a3.symm.trans b3; rfl
    have et : t = t' := by
      obtain ⟨D, fd, a1, a2, a3⟩ := hx.2.1
      obtain ⟨D', fd', b1, b2, b3⟩ := hy.2.1
      cases a1.symm.trans b1
      obtain ⟨q1, q2, q3, q4⟩ := a2.1
      obtain ⟨r1, r2, r3, r4⟩ := b2.1
      cases q4.symm.trans r4
      cases a3.symm.trans b3; rfl
    subst ec et
    have ev : V = V' := by cases hx.2.2.2.1.1.symm.trans hy.2.2.2.1.1; rfl
    subst ev
    have hs : SameT n f k g := (Cod.eqv hx.2.2.2.2.1 hy.2.2.2.2.1 hx.2.2.2.2.2 hy.2.2.2.2.2).mp ⟨rfl, fun _ _ => rfl⟩
    exact ⟨s₁, some (.int 1), _, _, _, X0, rfl, rfl, rfl, (fun h => by cases h), ⟨1, rfl, hh0, Or.inl ⟨rfl, hs⟩⟩, fun fs hl => c2.trans (X0.ireturnOut hexec hret rfl (Or.inr (Or.inl rfl)) (hb hbytes d6) hl)⟩
  · have c2 : Steps p.tables e below (s₁.setTop (entryFrame m #[.ref x, .ref y] 3)) (s₁.setTop (mkF m 8 #[.val (.ref x), .val (.ref y), .unset] [.ref y])) := c1.trans (by
      refine acmpYes X0.here hexec rfl (pc0 := 2) rfl (hb hbytes d2) rfl rfl rfl (by simp [acmp, hxy]) (by decide) rfl ?_
      refine XS.aloadN X0.here hexec rfl (hb hbytes d7) rfl rfl ?_
      exact Steps.refl _)
    obtain ⟨T3, X3, q3, st3⟩ := cinst X0 hexec hown (wk W (.classLink "java/lang/String" 10 "java/lang/String")) (hy.mv X0.warmed.alike hh0).1 (g := (mkF m 8 #[.val (.ref x), .val (.ref y), .unset] [.ref y])) rfl (rest := []) rfl (hb hbytes d8)
    have hh3 := q3.trans hh0
    have c4 : Steps p.tables e below (s₁.setTop (entryFrame m #[.ref x, .ref y] 3)) (T3.setTop (mkF m 15 #[.val (.ref x), .val (.ref y), .unset] [.ref y])) := (c2.trans (st3 _ (Steps.refl _))).trans (by
      refine XS.ifNo X3.here hexec rfl (hb hbytes d11) rfl (i0_eq_f (by decide)) ?_
      refine XS.aloadN X3.here hexec rfl (hb hbytes d14) rfl rfl ?_
      exact Steps.refl _)
    obtain ⟨T5, X5, q5, st5⟩ := cself X3 hexec hown (wk W (.classLink "java/lang/String" 10 "java/lang/String")) (hy.mv X3.warmed.alike hh3).1 (g := (mkF m 15 #[.val (.ref x), .val (.ref y), .unset] [.ref y])) rfl (rest := []) rfl (hb hbytes d15)
    have hh5 := q5.trans hh3
    have c6 : Steps p.tables e below (s₁.setTop (entryFrame m #[.ref x, .ref y] 3)) (T5.setTop (mkF m 19 #[.val (.ref x), .val (.ref y), .val (.ref y)] [])) := (c4.trans (st5 _ (Steps.refl _))).trans (by
      refine XS.astoreN X5.here hexec rfl (hb hbytes d18) rfl rfl rfl ?_
      exact Steps.refl _)
    obtain ⟨T7, X7, q7, st7⟩ := X5.sget hexec hown (wk W (.fieldLink "java/lang/String" 38 "java/lang/String" "COMPACT_STRINGS" "Z")) s1 (fun _ _ h => by rw [hh5]; exact h) (g := (mkF m 19 #[.val (.ref x), .val (.ref y), .val (.ref y)] [])) rfl (hb hbytes d19)
    have hh7 := q7.trans hh5
    have c8 : Steps p.tables e below (s₁.setTop (entryFrame m #[.ref x, .ref y] 3)) (T7.setTop (mkF m 26 #[.val (.ref x), .val (.ref y), .val (.ref y)] [.ref x])) := (c6.trans (st7 _ (Steps.refl _))).trans (by
      refine XS.ifNo X7.here hexec rfl (hb hbytes d22) rfl (i0_eq_f hz) ?_
      refine XS.aloadN X7.here hexec rfl (hb hbytes d25) rfl rfl ?_
      exact Steps.refl _)
    obtain ⟨T9, X9, q9, st9⟩ := X7.hget hexec hown (wk W (.fieldLink "java/lang/String" 15 "java/lang/String" "coder" "B")) (hx.mv X7.warmed.alike hh7).2.2.1 (g := (mkF m 26 #[.val (.ref x), .val (.ref y), .val (.ref y)] [.ref x])) rfl (rest := []) rfl (hb hbytes d26)
    have hh9 := q9.trans hh7
    have c10 : Steps p.tables e below (s₁.setTop (entryFrame m #[.ref x, .ref y] 3)) (T9.setTop (mkF m 30 #[.val (.ref x), .val (.ref y), .val (.ref y)] [.ref y, .int cd])) := (c8.trans (st9 _ (Steps.refl _))).trans (by
      refine XS.aloadN X9.here hexec rfl (hb hbytes d29) rfl rfl ?_
      exact Steps.refl _)
    obtain ⟨T11, X11, q11, st11⟩ := X9.hget hexec hown (wk W (.fieldLink "java/lang/String" 15 "java/lang/String" "coder" "B")) (hy.mv X9.warmed.alike hh9).2.2.1 (g := (mkF m 30 #[.val (.ref x), .val (.ref y), .val (.ref y)] [.ref y, .int cd])) rfl (rest := [.int cd]) rfl (hb hbytes d30)
    have hh11 := q11.trans hh9
    have c12 : Steps p.tables e below (s₁.setTop (entryFrame m #[.ref x, .ref y] 3)) (T11.setTop (mkF m 33 #[.val (.ref x), .val (.ref y), .val (.ref y)] [.int cd', .int cd])) := c10.trans (st11 _ (Steps.refl _))
    by_cases hcd : cd = cd'
    · subst hcd
      have c13 : Steps p.tables e below (s₁.setTop (entryFrame m #[.ref x, .ref y] 3)) (T11.setTop (mkF m 37 #[.val (.ref x), .val (.ref y), .val (.ref y)] [.ref x])) := c12.trans (by
        refine XS.icmpNo X11.here hexec rfl (hb hbytes d33) rfl (ii_ne_f rfl) ?_
        refine XS.aloadN X11.here hexec rfl (hb hbytes d36) rfl rfl ?_
        exact Steps.refl _)
      obtain ⟨T14, X14, q14, st14⟩ := X11.hget hexec hown (wk W (.fieldLink "java/lang/String" 9 "java/lang/String" "value" "[B")) (hx.mv X11.warmed.alike hh11).2.1 (g := (mkF m 37 #[.val (.ref x), .val (.ref y), .val (.ref y)] [.ref x])) rfl (rest := []) rfl (hb hbytes d37)
      have hh14 := q14.trans hh11
      have c15 : Steps p.tables e below (s₁.setTop (entryFrame m #[.ref x, .ref y] 3)) (T14.setTop (mkF m 41 #[.val (.ref x), .val (.ref y), .val (.ref y)] [.ref y, .ref t])) := (c13.trans (st14 _ (Steps.refl _))).trans (by
        refine XS.aloadN X14.here hexec rfl (hb hbytes d40) rfl rfl ?_
        exact Steps.refl _)
      obtain ⟨T16, X16, q16, st16⟩ := X14.hget hexec hown (wk W (.fieldLink "java/lang/String" 9 "java/lang/String" "value" "[B")) (hy.mv X14.warmed.alike hh14).2.1 (g := (mkF m 41 #[.val (.ref x), .val (.ref y), .val (.ref y)] [.ref y, .ref t])) rfl (rest := [.ref t]) rfl (hb hbytes d41)
      have hh16 := q16.trans hh14
      have c17 : Steps p.tables e below (s₁.setTop (entryFrame m #[.ref x, .ref y] 3)) (T16.setTop (mkF m 44 #[.val (.ref x), .val (.ref y), .val (.ref y)] [.ref t', .ref t])) := c15.trans (st16 _ (Steps.refl _))
      obtain ⟨v18, T18, X18, E18, g18⟩ := X16.callS hexec (LEq.law l t V t' V') hown (wks W (staticW "java/lang/String" 541 LEq.yN)) (wk W LEq.tab) (W := 0) (Nat.le_of_ble_eq_true rfl) (Nat.le_of_ble_eq_true rfl) (Nat.le_refl _) (Nat.le_refl _) (g := (mkF m 44 #[.val (.ref x), .val (.ref y), .val (.ref y)] [.ref t', .ref t])) rfl (by rw [hml]; rfl) c17 (argsL := [.ref t, .ref t']) (rest := []) rfl rfl (by show 2 * 0 + 0 ≤ _; decide) (hb hbytes d44) (⟨rfl, hx.2.2.2.1.mv X16.warmed.alike hh16, hx.2.2.2.2.1.ty, hy.2.2.2.1.mv X16.warmed.alike hh16, hy.2.2.2.2.1.ty⟩)
      obtain ⟨v, rfl, q18, hv⟩ := E18
      have iff := Cod.eqv hx.2.2.2.2.1 hy.2.2.2.2.1 hx.2.2.2.2.2 hy.2.2.2.2.2
      rcases hv with ⟨rfl, he⟩ | ⟨rfl, he⟩
      · have c19 : Steps p.tables e below (s₁.setTop (entryFrame m #[.ref x, .ref y] 3)) (T18.setTop (mkF m 55 #[.val (.ref x), .val (.ref y), .val (.ref y)] [.int 1])) := Steps.trans g18 (by
          refine XS.ifNo X18.here hexec rfl (hb hbytes d47) rfl (i0_eq_f (by decide)) ?_
          refine iconstV X18.here hexec rfl 1 (hb hbytes d50) (by decide) ?_
          refine XS.goto X18.here hexec rfl (pc0 := 51) rfl (hb hbytes d51) (by decide) rfl ?_
          exact Steps.refl _)
        exact ⟨T18, some (.int 1), _, _, _, X18, rfl, rfl, rfl, (fun h => by cases h), ⟨1, rfl, q18.trans hh16, Or.inl ⟨rfl, iff.mp he⟩⟩, fun fs hl => c19.trans (X18.ireturnOut hexec hret rfl (Or.inr (Or.inl rfl)) (hb hbytes d55) hl)⟩
      · have c19 : Steps p.tables e below (s₁.setTop (entryFrame m #[.ref x, .ref y] 3)) (T18.setTop (mkF m 55 #[.val (.ref x), .val (.ref y), .val (.ref y)] [.int 0])) := Steps.trans g18 (by
          refine XS.ifYes X18.here hexec rfl (pc0 := 47) rfl (hb hbytes d47) rfl (i0_eq_t rfl) (by decide) rfl ?_
          refine iconstV X18.here hexec rfl 0 (hb hbytes d54) (by decide) ?_
          exact Steps.refl _)
        exact ⟨T18, some (.int 0), _, _, _, X18, rfl, rfl, rfl, (fun h => by cases h), ⟨0, rfl, q18.trans hh16, Or.inr ⟨rfl, fun q => he (iff.mpr q)⟩⟩, fun fs hl => c19.trans (X18.ireturnOut hexec hret rfl (Or.inr (Or.inl rfl)) (hb hbytes d55) hl)⟩
    · have c13 : Steps p.tables e below (s₁.setTop (entryFrame m #[.ref x, .ref y] 3)) (T11.setTop (mkF m 55 #[.val (.ref x), .val (.ref y), .val (.ref y)] [.int 0])) := c12.trans (by
        refine XS.icmpYes X11.here hexec rfl (pc0 := 33) rfl (hb hbytes d33) rfl (ii_ne_t hcd) (by decide) rfl ?_
        refine iconstV X11.here hexec rfl 0 (hb hbytes d54) (by decide) ?_
        exact Steps.refl _)
      exact ⟨T11, some (.int 0), _, _, _, X11, rfl, rfl, rfl, (fun h => by cases h), ⟨0, rfl, hh11, Or.inr ⟨rfl, Cod.dif hx.2.2.2.2.1 hy.2.2.2.2.1 hcd⟩⟩, fun fs hl => c13.trans (X11.ireturnOut hexec hret rfl (Or.inr (Or.inl rfl)) (hb hbytes d55) hl)⟩
theorem pays {l : Launch} {R : Room} {p : Program} {e : Env} {below : List Frame} {s : State} {sargs : Array Value} {len W : Nat} (x t : Addr) (V : Cell) (cd : Int32) (n : Nat) (f : Nat → Int32) (y t' : Addr) (V' : Cell) (cd' : Int32) (k : Nat) (g : Nat → Int32) (z : Int32) (htab : tab.before sargs s = true) (hfr : 2 ≤ R.frames) (hlo : W + 28 ≤ R.locals) :
    Back l R p e below s sargs yN len W (fun A₁ a₁ => A₁.cells + 0 ≤ R.cells ∧ A₁.slots + 0 ≤ R.slots ∧ P x t V cd n f y t' V' cd' k g z a₁ A₁.U) (fun A₁ _ v₁ B₁ => Says01 (SameT n f k g) v₁ A₁.U B₁.U ∧ B₁.locs = A₁.locs ++ [] ∧ B₁.cells = A₁.cells + 0 ∧ B₁.slots = A₁.slots + 0) :=
  (law l x t V cd n f y t' V' cd' k g z).pays htab hfr (by omega)
end SEq
end StrChars
namespace StrChars.Road
open Jvm Sem ClassFile Op Lib Jvm.Stand Jvm.Free Jvm.Free.XT
open Jvm.Lib.Cold (StaticIs)
/-- the words of String.equals(Object) -/
abbrev wordsEq : List Jvm.Cond := [.code SEq.yN SEq.yB 3 (some .boolean), .initialized ST, .classLink ST 10 ST, .fieldLink ST 38 ST "COMPACT_STRINGS" "Z", .fieldLink ST 15 ST "coder" "B", .fieldLink ST 9 ST "value" "[B", .methodLink ST 541 LEq.yN, .static LEq.yN, .code LEq.yN LEq.yB 3 (some .boolean), .initialized "java/lang/StringLatin1"]
theorem tabEq_of {a : Array Value} {s : State} (h : ∀ w ∈ wordsEq, w.before a s = true) : SEq.tab.before a s = true := by
  have hl : LEq.tab.before a s = true := unparts (wk h (.code LEq.yN LEq.yB 3 (some .boolean))) (wks h (.initialized LEq.yN.cls :: LEq.site))
  have q := consq hl h
  exact unparts (wk q (.code SEq.yN SEq.yB 3 (some .boolean))) (wks q (.initialized SEq.yN.cls :: SEq.site))
theorem movedEq {Z s : State} {a0 args : Array Value} (hZ : Z.Warmed39 s.vm) (hw : ∀ d ∈ wordsEq, d.before a0 Z = true) : ∀ d ∈ wordsEq, d.before args s = true := fun d hd => by
  have t : ∀ d ∈ wordsEq, (d.onTables && d.keepsFace) = true := by decide +kernel
  exact RoadKit.mv hZ (hw d hd) (t d hd)
/-- the road's facts of a String, as the laws ask it -/
theorem txt_of {Z U : State} {a0 : Array Value} {kI : Nat} (wi : (Jvm.Cond.instantiable ST kI).before a0 Z = true) (al : Z.vm.Alike U.vm) {x t : Addr} {kb : ClassId} {cs : List Int32} {cd N2 : Int32} {vs : List Value} (E : RoadKit.Exa Z U.heap x ST) (V : RoadKit.Fld Z U.heap x ST "value" "[B" (.ref t)) (C : RoadKit.Fld Z U.heap x ST "coder" "B" (.int cd)) (K : RoadKit.Arv Z U.heap t kb .byte N2 vs (.int 0)) (hc : CodA cs cd N2 vs) (hb : ∀ c ∈ cs, ¬ c < 0 ∧ ¬ (65535 : Int32) < c) (l2 : cs.length ≤ 4000) :
    ∃ A, Txt x t A cd cs.length (fun j => cs.getD j 0) U := by
  obtain ⟨A, K1, K2, K3, K4, K5, K6⟩ := K
  have hcod := hc.cod (by omega) K3 K5
  obtain ⟨D, fV, fC, hB, F1, F2, g1, g2, -, -⟩ := strObj wi al E V C
  exact ⟨A, ⟨_, hB.2.2.1, D, hB.1, rfl, by cases q : D.vm <;> first | rfl | exact absurd q (hB.2.1.2 _)⟩, Has.of hB F1 g1, Has.of hB F2 g2, ⟨K1.1, State.isArrayOf_alike al K1.2.1, K1.2.2, by rcases hcod with ⟨-, q, -⟩ | ⟨-, q, -⟩ <;> omega⟩, hcod, fun j hj => by
    have e : cs.getD j 0 = cs[j] := by simp [List.getD_eq_getElem?_getD, hj]
    show ¬ cs.getD j 0 < 0 ∧ ¬ 65535 < cs.getD j 0
    rw [e]; exact hb _ (List.getElem_mem _)⟩
theorem same_list (cs ds : List Int32) : SameT cs.length (fun j => cs.getD j 0) ds.length (fun j => ds.getD j 0) ↔ cs = ds := by
  constructor
  · rintro ⟨e, q⟩
    refine List.ext_getElem e fun j h1 h2 => ?_
    have := q j h1
    simpa [List.getD_eq_getElem?_getD, h1, h2] using this
  · rintro rfl
    exact ⟨rfl, fun _ _ => rfl⟩
/-- **equals(Object) OF TWO SUCH STRINGS**: 1 just where the chars are the same -/
theorem eqW {p : Program} {l : Launch} {e : Env} {R : Room} {s : State} {args : Array Value} {below : List Frame} {len W : Nat} {Z : State} {a0 : Array Value} {h : Heap} (hZ : Z.Warmed39 s.vm) (hw : ∀ d ∈ wordsEq, d.before a0 Z = true) {kI : Nat} (wi : (Jvm.Cond.instantiable ST kI).before a0 Z = true)
    {x t : Addr} {kb : ClassId} {cs : List Int32} {cd N2 : Int32} {vs : List Value} (E : RoadKit.Exa Z h x ST) (V : RoadKit.Fld Z h x ST "value" "[B" (.ref t)) (C : RoadKit.Fld Z h x ST "coder" "B" (.int cd)) (K : RoadKit.Arv Z h t kb .byte N2 vs (.int 0)) (hc : CodA cs cd N2 vs) (hb : ∀ c ∈ cs, ¬ c < 0 ∧ ¬ (65535 : Int32) < c) (l2 : cs.length ≤ 4000)
    {y t' : Addr} {kb' : ClassId} {ds : List Int32} {cd' N2' : Int32} {vs' : List Value} (E' : RoadKit.Exa Z h y ST) (V' : RoadKit.Fld Z h y ST "value" "[B" (.ref t')) (C' : RoadKit.Fld Z h y ST "coder" "B" (.int cd')) (K' : RoadKit.Arv Z h t' kb' .byte N2' vs' (.int 0)) (hc' : CodA ds cd' N2' vs') (hb' : ∀ c ∈ ds, ¬ c < 0 ∧ ¬ (65535 : Int32) < c) (l2' : ds.length ≤ 4000)
    {z : Int32} (S : RoadKit.Sta Z h ST "COMPACT_STRINGS" "Z" (.int z)) (hz : ¬ z = 0) (hfr : 2 ≤ R.frames) (hlo : W + 28 ≤ R.locals) :
    Back l R p e below s args (⟨"java/lang/String", "equals", "(Ljava/lang/Object;)Z"⟩ : MethodName) len W (fun P a => a = #[.ref x, .ref y] ∧ P.U.heap = h ∧ P.cells + 0 ≤ R.cells ∧ P.slots + 0 ≤ R.slots)
      (fun P _ v B => ∃ L, (((v = some (.int 1) ∧ cs = ds) ∨ (v = some (.int 0) ∧ ¬ cs = ds)) ∧ L = [] ∧ B.U.heap = h) ∧ B.locs = P.locs ++ L ∧ B.cells = P.cells + 0 ∧ B.slots = P.slots + 0) := by
  intro m meth c P g ig mk a X hg hsize hdg hW hn hp'
  obtain ⟨rfl, rfl, r1, r2⟩ := hp'
  have al : Z.vm.Alike P.U.vm := hZ.alike.trans X.warmed.alike
  obtain ⟨A, hx⟩ := txt_of wi al E V C K hc hb l2
  obtain ⟨A', hy⟩ := txt_of wi al E' V' C' K' hc' hb' l2'
  obtain ⟨v, B, X', ⟨⟨w, hv, hh, hq⟩, hl, hk, hs⟩, st⟩ := SEq.pays x t A cd cs.length (fun j => cs.getD j 0) y t' A' cd' ds.length (fun j => ds.getD j 0) z (tabEq_of (movedEq hZ hw)) hfr hlo m meth c P g ig mk _ X hg hsize hdg hW hn ⟨r1, r2, rfl, hx, hy, sta_is al S, hz⟩
  refine ⟨v, B, X', ⟨[], ⟨?_, rfl, hh⟩, hl, hk, hs⟩, st⟩
  rcases hq with ⟨rfl, q⟩ | ⟨rfl, q⟩
  · exact Or.inl ⟨hv, (same_list cs ds).mp q⟩
  · exact Or.inr ⟨hv, fun e => q ((same_list cs ds).mpr e)⟩
end StrChars.Road
end Jvm.Pilot.@@N@@
namespace Jvm.Pilot.@@N@@
open Jvm Jvm.ClassFile Sem Op Lib Jvm.Free Jvm.Stand Jvm.LawKit Jvm.RoadKit Bundle Jvm.Pilot.@@N@@.Jvm.D
theorem own_selP {s : State} {args args' : Array Value} {y x z : MethodName} {C : String} (h : (Jvm.Cond.selects C x z).before args' s = true) (hz : z.cls = y.cls) (hp : s.PrivateAt y) (hi : (Jvm.Cond.instanceMethod y).before args s = true) (hy : y.cls ≠ "java/lang/invoke/MethodHandle" ∧ y.cls ≠ "java/lang/invoke/VarHandle") : (Jvm.Cond.selects y.cls y y).before args s = true := by
  obtain ⟨c2, r2, m2, -, -, q3, -, kP, hkP, hkPi⟩ := Cond.selects_spec h
  exact Jvm.Stand.selects_self_of_private (hz ▸ findClass_of_methodNamed q3) hkP hkPi hp hi hy
theorem own_sameP {s : State} {args : Array Value} {y x z : MethodName} {C : String} (h : (Jvm.Cond.selects C x z).before args s = true) (hz : z.cls = y.cls) (hi : (Jvm.Cond.instanceMethod y).before args s = true) (hy : y.cls ≠ "java/lang/invoke/MethodHandle" ∧ y.cls ≠ "java/lang/invoke/VarHandle") : (Jvm.Cond.sameMethod y.cls y.cls y.name y.desc).before args s = true := by
  obtain ⟨c2, r2, m2, -, -, q3, -, kP, hkP, hkPi⟩ := Cond.selects_spec h
  obtain ⟨mk, methM, hnamed, hmethM, -, -⟩ := Cond.instanceMethod_spec hi
  have hf := State.methodFound?_of_named hnamed hy
  have hc := findClass_of_methodNamed hnamed
  have hc2 : s.vm.findClass y.cls = some m2.cls := hz ▸ findClass_of_methodNamed q3
  have e : mk.cls = m2.cls := Option.some.inj (hc.symm.trans hc2)
  simp [Cond.before, Cond.holds, Cond.value, hc, hf, hnamed, e, hkP, hkPi]
theorem own_nf {s : State} {args : Array Value} {y x z : MethodName} {C : String} (h : (Jvm.Cond.selects C x z).before args s = true) (hz : z.cls = y.cls) : NotFace s y := fun r0 h0 => by
  obtain ⟨c2, r2, m2, -, -, q3, -, kP, hkP, hkPi⟩ := Cond.selects_spec h
  have hc2 : s.vm.findClass y.cls = some m2.cls := hz ▸ findClass_of_methodNamed q3
  have e : r0.cls = m2.cls := Option.some.inj ((findClass_of_methodNamed h0).symm.trans hc2)
  exact ⟨kP, by rw [e]; exact hkP, hkPi⟩
abbrev mn0 : MethodName := ⟨"com/example/endless_runs/endlessruns/hoa/TokenIsPinLaw", "kindOf", "(I)Lcom/example/endless_runs/endlessruns/hoa/HoaLexer$Kind;"⟩
abbrev mn1 : MethodName := ⟨"java/lang/StringUTF16", "coderFromArrayLen", "([BI)B"⟩
abbrev mn2 : MethodName := ⟨"java/lang/StringUTF16", "compress", "([CI[BII)I"⟩
abbrev mn3 : MethodName := ⟨"java/lang/StringUTF16", "compress", "([CII)[B"⟩
abbrev mn4 : MethodName := ⟨"java/lang/String", "<init>", "([CIILjava/lang/Void;)V"⟩
abbrev mn5 : MethodName := ⟨"java/lang/String", "<init>", "([C)V"⟩
abbrev mn6 : MethodName := ⟨"com/example/endless_runs/endlessruns/hoa/TokenIsPinLaw", "str", "(ICC)Ljava/lang/String;"⟩
abbrev mn7 : MethodName := ⟨"com/example/endless_runs/endlessruns/hoa/HoaLexer$Token", "<init>", "(Lcom/example/endless_runs/endlessruns/hoa/HoaLexer$Kind;Ljava/lang/String;III)V"⟩
abbrev mn8 : MethodName := ⟨"java/lang/String", "equals", "(Ljava/lang/Object;)Z"⟩
abbrev mn9 : MethodName := ⟨"com/example/endless_runs/endlessruns/hoa/HoaLexer$Token", "is", "(Lcom/example/endless_runs/endlessruns/hoa/HoaLexer$Kind;Ljava/lang/String;)Z"⟩
theorem wd0 {a0 : Array Value} {Z : State} (hw : ∀ d ∈ tables_1, d.before a0 Z = true) : (Jvm.Cond.constant "com/example/endless_runs/endlessruns/hoa/TokenIsPinLaw" (69 : Nat) (2147483647 : Int32)).before a0 Z = true := hw _ (List.mem_of_getElem? (i := 0) rfl)
theorem wd1 {a0 : Array Value} {Z : State} (hw : ∀ d ∈ tables_1, d.before a0 Z = true) : (Jvm.Cond.methodLink "com/example/endless_runs/endlessruns/hoa/TokenIsPinLaw" (70 : Nat) ({ cls := "com/example/endless_runs/endlessruns/hoa/TokenIsPinLaw", name := "kindOf", desc := "(I)Lcom/example/endless_runs/endlessruns/hoa/HoaLexer$Kind;" } : Jvm.MethodName)).before a0 Z = true := hw _ (List.mem_of_getElem? (i := 1) rfl)
theorem wd2 {a0 : Array Value} {Z : State} (hw : ∀ d ∈ tables_1, d.before a0 Z = true) : (Jvm.Cond.static ({ cls := "com/example/endless_runs/endlessruns/hoa/TokenIsPinLaw", name := "kindOf", desc := "(I)Lcom/example/endless_runs/endlessruns/hoa/HoaLexer$Kind;" } : Jvm.MethodName)).before a0 Z = true := hw _ (List.mem_of_getElem? (i := 2) rfl)
theorem wd3 {a0 : Array Value} {Z : State} (hw : ∀ d ∈ tables_1, d.before a0 Z = true) : (Jvm.Cond.initialized "com/example/endless_runs/endlessruns/hoa/TokenIsPinLaw").before a0 Z = true := hw _ (List.mem_of_getElem? (i := 3) rfl)
theorem wd4 {a0 : Array Value} {Z : State} (hw : ∀ d ∈ tables_1, d.before a0 Z = true) : (Jvm.Cond.code ({ cls := "com/example/endless_runs/endlessruns/hoa/TokenIsPinLaw", name := "kindOf", desc := "(I)Lcom/example/endless_runs/endlessruns/hoa/HoaLexer$Kind;" } : Jvm.MethodName) method_2_code (1 : Nat) (Option.some (Jvm.ClassFile.FieldType.object "com/example/endless_runs/endlessruns/hoa/HoaLexer$Kind"))).before a0 Z = true := hw _ (List.mem_of_getElem? (i := 4) rfl)
theorem wd5 {a0 : Array Value} {Z : State} (hw : ∀ d ∈ tables_1, d.before a0 Z = true) : (Jvm.Cond.fieldLink "com/example/endless_runs/endlessruns/hoa/TokenIsPinLaw" (7 : Nat) "com/example/endless_runs/endlessruns/hoa/HoaLexer$Kind" "HEADER_NAME" "Lcom/example/endless_runs/endlessruns/hoa/HoaLexer$Kind;").before a0 Z = true := hw _ (List.mem_of_getElem? (i := 5) rfl)
theorem wd6 {a0 : Array Value} {Z : State} (hw : ∀ d ∈ tables_1, d.before a0 Z = true) : (Jvm.Cond.initialized "com/example/endless_runs/endlessruns/hoa/HoaLexer$Kind").before a0 Z = true := hw _ (List.mem_of_getElem? (i := 6) rfl)
theorem wd7 {a0 : Array Value} {Z : State} (hw : ∀ d ∈ tables_1, d.before a0 Z = true) : (Jvm.Cond.laysStatic "com/example/endless_runs/endlessruns/hoa/HoaLexer$Kind" "HEADER_NAME" "Lcom/example/endless_runs/endlessruns/hoa/HoaLexer$Kind;").before a0 Z = true := hw _ (List.mem_of_getElem? (i := 7) rfl)
theorem wd8 {a0 : Array Value} {Z : State} (hw : ∀ d ∈ tables_1, d.before a0 Z = true) : (Jvm.Cond.methodLink "com/example/endless_runs/endlessruns/hoa/TokenIsPinLaw" (76 : Nat) ({ cls := "com/example/endless_runs/endlessruns/hoa/TokenIsPinLaw", name := "str", desc := "(ICC)Ljava/lang/String;" } : Jvm.MethodName)).before a0 Z = true := hw _ (List.mem_of_getElem? (i := 8) rfl)
theorem wd9 {a0 : Array Value} {Z : State} (hw : ∀ d ∈ tables_1, d.before a0 Z = true) : (Jvm.Cond.static ({ cls := "com/example/endless_runs/endlessruns/hoa/TokenIsPinLaw", name := "str", desc := "(ICC)Ljava/lang/String;" } : Jvm.MethodName)).before a0 Z = true := hw _ (List.mem_of_getElem? (i := 9) rfl)
theorem wd10 {a0 : Array Value} {Z : State} (hw : ∀ d ∈ tables_1, d.before a0 Z = true) : (Jvm.Cond.code ({ cls := "com/example/endless_runs/endlessruns/hoa/TokenIsPinLaw", name := "str", desc := "(ICC)Ljava/lang/String;" } : Jvm.MethodName) method_3_code (3 : Nat) (Option.some (Jvm.ClassFile.FieldType.object "java/lang/String"))).before a0 Z = true := hw _ (List.mem_of_getElem? (i := 10) rfl)
theorem wd11 {a0 : Array Value} {Z : State} (hw : ∀ d ∈ tables_1, d.before a0 Z = true) : (Jvm.Cond.classLink "com/example/endless_runs/endlessruns/hoa/TokenIsPinLaw" (64 : Nat) "java/lang/String").before a0 Z = true := hw _ (List.mem_of_getElem? (i := 11) rfl)
theorem wd12 {a0 : Array Value} {Z : State} (hw : ∀ d ∈ tables_1, d.before a0 Z = true) : (Jvm.Cond.instantiable "java/lang/String" (4 : Nat)).before a0 Z = true := hw _ (List.mem_of_getElem? (i := 12) rfl)
theorem wd13 {a0 : Array Value} {Z : State} (hw : ∀ d ∈ tables_1, d.before a0 Z = true) : (Jvm.Cond.initialized "java/lang/String").before a0 Z = true := hw _ (List.mem_of_getElem? (i := 13) rfl)
theorem wd14 {a0 : Array Value} {Z : State} (hw : ∀ d ∈ tables_1, d.before a0 Z = true) : (Jvm.Cond.arrayClass Jvm.ClassFile.FieldType.char).before a0 Z = true := hw _ (List.mem_of_getElem? (i := 14) rfl)
theorem wd15 {a0 : Array Value} {Z : State} (hw : ∀ d ∈ tables_1, d.before a0 Z = true) : (Jvm.Cond.methodLink "com/example/endless_runs/endlessruns/hoa/TokenIsPinLaw" (66 : Nat) ({ cls := "java/lang/String", name := "<init>", desc := "([C)V" } : Jvm.MethodName)).before a0 Z = true := hw _ (List.mem_of_getElem? (i := 15) rfl)
theorem wd16 {a0 : Array Value} {Z : State} (hw : ∀ d ∈ tables_1, d.before a0 Z = true) : (Jvm.Cond.instanceMethod ({ cls := "java/lang/String", name := "<init>", desc := "([C)V" } : Jvm.MethodName)).before a0 Z = true := hw _ (List.mem_of_getElem? (i := 16) rfl)
theorem wd17 {a0 : Array Value} {Z : State} (hw : ∀ d ∈ tables_1, d.before a0 Z = true) : (Jvm.Cond.code ({ cls := "java/lang/String", name := "<init>", desc := "([C)V" } : Jvm.MethodName) jdk_42_method_3_code (2 : Nat) (Option.none : Option Jvm.ClassFile.FieldType)).before a0 Z = true := hw _ (List.mem_of_getElem? (i := 17) rfl)
theorem wd18 {a0 : Array Value} {Z : State} (hw : ∀ d ∈ tables_1, d.before a0 Z = true) : (Jvm.Cond.methodLink "java/lang/String" (27 : Nat) ({ cls := "java/lang/String", name := "<init>", desc := "([CIILjava/lang/Void;)V" } : Jvm.MethodName)).before a0 Z = true := hw _ (List.mem_of_getElem? (i := 18) rfl)
theorem wd19 {a0 : Array Value} {Z : State} (hw : ∀ d ∈ tables_1, d.before a0 Z = true) : (Jvm.Cond.instanceMethod ({ cls := "java/lang/String", name := "<init>", desc := "([CIILjava/lang/Void;)V" } : Jvm.MethodName)).before a0 Z = true := hw _ (List.mem_of_getElem? (i := 19) rfl)
theorem wd21 {a0 : Array Value} {Z : State} (hw : ∀ d ∈ tables_1, d.before a0 Z = true) : (Jvm.Cond.code ({ cls := "java/lang/String", name := "<init>", desc := "([CIILjava/lang/Void;)V" } : Jvm.MethodName) jdk_42_method_149_code (6 : Nat) (Option.none : Option Jvm.ClassFile.FieldType)).before a0 Z = true := hw _ (List.mem_of_getElem? (i := 21) rfl)
theorem wd22 {a0 : Array Value} {Z : State} (hw : ∀ d ∈ tables_1, d.before a0 Z = true) : (Jvm.Cond.methodLink "java/lang/String" (1 : Nat) ({ cls := "java/lang/Object", name := "<init>", desc := "()V" } : Jvm.MethodName)).before a0 Z = true := hw _ (List.mem_of_getElem? (i := 22) rfl)
theorem wd23 {a0 : Array Value} {Z : State} (hw : ∀ d ∈ tables_1, d.before a0 Z = true) : (Jvm.Cond.instanceMethod ({ cls := "java/lang/Object", name := "<init>", desc := "()V" } : Jvm.MethodName)).before a0 Z = true := hw _ (List.mem_of_getElem? (i := 23) rfl)
theorem wd24 {a0 : Array Value} {Z : State} (hw : ∀ d ∈ tables_1, d.before a0 Z = true) : (Jvm.Cond.code ({ cls := "java/lang/Object", name := "<init>", desc := "()V" } : Jvm.MethodName) object_method_1_code (1 : Nat) (Option.none : Option Jvm.ClassFile.FieldType)).before a0 Z = true := hw _ (List.mem_of_getElem? (i := 24) rfl)
theorem wd25 {a0 : Array Value} {Z : State} (hw : ∀ d ∈ tables_1, d.before a0 Z = true) : (Jvm.Cond.stringLink "java/lang/String" (7 : Nat) "").before a0 Z = true := hw _ (List.mem_of_getElem? (i := 25) rfl)
theorem wd26 {a0 : Array Value} {Z : State} (hw : ∀ d ∈ tables_1, d.before a0 Z = true) : (Jvm.Cond.arrayClass Jvm.ClassFile.FieldType.byte).before a0 Z = true := hw _ (List.mem_of_getElem? (i := 26) rfl)
theorem wd27 {a0 : Array Value} {Z : State} (hw : ∀ d ∈ tables_1, d.before a0 Z = true) : (Jvm.Cond.laysFinal "java/lang/String" "java/lang/String" "value" "[B").before a0 Z = true := hw _ (List.mem_of_getElem? (i := 27) rfl)
theorem wd28 {a0 : Array Value} {Z : State} (hw : ∀ d ∈ tables_1, d.before a0 Z = true) : (Jvm.Cond.laysFinal "java/lang/String" "java/lang/String" "coder" "B").before a0 Z = true := hw _ (List.mem_of_getElem? (i := 28) rfl)
theorem wd31 {a0 : Array Value} {Z : State} (hw : ∀ d ∈ tables_1, d.before a0 Z = true) : (Jvm.Cond.fieldLink "java/lang/String" (9 : Nat) "java/lang/String" "value" "[B").before a0 Z = true := hw _ (List.mem_of_getElem? (i := 31) rfl)
theorem wd32 {a0 : Array Value} {Z : State} (hw : ∀ d ∈ tables_1, d.before a0 Z = true) : (Jvm.Cond.fieldLink "java/lang/String" (15 : Nat) "java/lang/String" "coder" "B").before a0 Z = true := hw _ (List.mem_of_getElem? (i := 32) rfl)
theorem wd33 {a0 : Array Value} {Z : State} (hw : ∀ d ∈ tables_1, d.before a0 Z = true) : (Jvm.Cond.classLink "com/example/endless_runs/endlessruns/hoa/TokenIsPinLaw" (80 : Nat) "com/example/endless_runs/endlessruns/hoa/HoaLexer$Token").before a0 Z = true := hw _ (List.mem_of_getElem? (i := 33) rfl)
theorem wd34 {a0 : Array Value} {Z : State} (hw : ∀ d ∈ tables_1, d.before a0 Z = true) : (Jvm.Cond.instantiable "com/example/endless_runs/endlessruns/hoa/HoaLexer$Token" (5 : Nat)).before a0 Z = true := hw _ (List.mem_of_getElem? (i := 34) rfl)
theorem wd35 {a0 : Array Value} {Z : State} (hw : ∀ d ∈ tables_1, d.before a0 Z = true) : (Jvm.Cond.initialized "com/example/endless_runs/endlessruns/hoa/HoaLexer$Token").before a0 Z = true := hw _ (List.mem_of_getElem? (i := 35) rfl)
theorem wd36 {a0 : Array Value} {Z : State} (hw : ∀ d ∈ tables_1, d.before a0 Z = true) : (Jvm.Cond.methodLink "com/example/endless_runs/endlessruns/hoa/TokenIsPinLaw" (82 : Nat) ({ cls := "com/example/endless_runs/endlessruns/hoa/HoaLexer$Token", name := "<init>", desc := "(Lcom/example/endless_runs/endlessruns/hoa/HoaLexer$Kind;Ljava/lang/String;III)V" } : Jvm.MethodName)).before a0 Z = true := hw _ (List.mem_of_getElem? (i := 36) rfl)
theorem wd37 {a0 : Array Value} {Z : State} (hw : ∀ d ∈ tables_1, d.before a0 Z = true) : (Jvm.Cond.instanceMethod ({ cls := "com/example/endless_runs/endlessruns/hoa/HoaLexer$Token", name := "<init>", desc := "(Lcom/example/endless_runs/endlessruns/hoa/HoaLexer$Kind;Ljava/lang/String;III)V" } : Jvm.MethodName)).before a0 Z = true := hw _ (List.mem_of_getElem? (i := 37) rfl)
theorem wd38 {a0 : Array Value} {Z : State} (hw : ∀ d ∈ tables_1, d.before a0 Z = true) : (Jvm.Cond.code ({ cls := "com/example/endless_runs/endlessruns/hoa/HoaLexer$Token", name := "<init>", desc := "(Lcom/example/endless_runs/endlessruns/hoa/HoaLexer$Kind;Ljava/lang/String;III)V" } : Jvm.MethodName) prog_74_method_1_code (6 : Nat) (Option.none : Option Jvm.ClassFile.FieldType)).before a0 Z = true := hw _ (List.mem_of_getElem? (i := 38) rfl)
theorem wd39 {a0 : Array Value} {Z : State} (hw : ∀ d ∈ tables_1, d.before a0 Z = true) : (Jvm.Cond.methodLink "com/example/endless_runs/endlessruns/hoa/HoaLexer$Token" (1 : Nat) ({ cls := "java/lang/Object", name := "<init>", desc := "()V" } : Jvm.MethodName)).before a0 Z = true := hw _ (List.mem_of_getElem? (i := 39) rfl)
theorem wd40 {a0 : Array Value} {Z : State} (hw : ∀ d ∈ tables_1, d.before a0 Z = true) : (Jvm.Cond.fieldLink "com/example/endless_runs/endlessruns/hoa/HoaLexer$Token" (7 : Nat) "com/example/endless_runs/endlessruns/hoa/HoaLexer$Token" "kind" "Lcom/example/endless_runs/endlessruns/hoa/HoaLexer$Kind;").before a0 Z = true := hw _ (List.mem_of_getElem? (i := 40) rfl)
theorem wd41 {a0 : Array Value} {Z : State} (hw : ∀ d ∈ tables_1, d.before a0 Z = true) : (Jvm.Cond.laysFinal "com/example/endless_runs/endlessruns/hoa/HoaLexer$Token" "com/example/endless_runs/endlessruns/hoa/HoaLexer$Token" "kind" "Lcom/example/endless_runs/endlessruns/hoa/HoaLexer$Kind;").before a0 Z = true := hw _ (List.mem_of_getElem? (i := 41) rfl)
theorem wd42 {a0 : Array Value} {Z : State} (hw : ∀ d ∈ tables_1, d.before a0 Z = true) : (Jvm.Cond.fieldLink "com/example/endless_runs/endlessruns/hoa/HoaLexer$Token" (13 : Nat) "com/example/endless_runs/endlessruns/hoa/HoaLexer$Token" "text" "Ljava/lang/String;").before a0 Z = true := hw _ (List.mem_of_getElem? (i := 42) rfl)
theorem wd43 {a0 : Array Value} {Z : State} (hw : ∀ d ∈ tables_1, d.before a0 Z = true) : (Jvm.Cond.laysFinal "com/example/endless_runs/endlessruns/hoa/HoaLexer$Token" "com/example/endless_runs/endlessruns/hoa/HoaLexer$Token" "text" "Ljava/lang/String;").before a0 Z = true := hw _ (List.mem_of_getElem? (i := 43) rfl)
theorem wd44 {a0 : Array Value} {Z : State} (hw : ∀ d ∈ tables_1, d.before a0 Z = true) : (Jvm.Cond.fieldLink "com/example/endless_runs/endlessruns/hoa/HoaLexer$Token" (17 : Nat) "com/example/endless_runs/endlessruns/hoa/HoaLexer$Token" "value" "I").before a0 Z = true := hw _ (List.mem_of_getElem? (i := 44) rfl)
theorem wd45 {a0 : Array Value} {Z : State} (hw : ∀ d ∈ tables_1, d.before a0 Z = true) : (Jvm.Cond.laysFinal "com/example/endless_runs/endlessruns/hoa/HoaLexer$Token" "com/example/endless_runs/endlessruns/hoa/HoaLexer$Token" "value" "I").before a0 Z = true := hw _ (List.mem_of_getElem? (i := 45) rfl)
theorem wd46 {a0 : Array Value} {Z : State} (hw : ∀ d ∈ tables_1, d.before a0 Z = true) : (Jvm.Cond.fieldLink "com/example/endless_runs/endlessruns/hoa/HoaLexer$Token" (21 : Nat) "com/example/endless_runs/endlessruns/hoa/HoaLexer$Token" "automaton" "I").before a0 Z = true := hw _ (List.mem_of_getElem? (i := 46) rfl)
theorem wd47 {a0 : Array Value} {Z : State} (hw : ∀ d ∈ tables_1, d.before a0 Z = true) : (Jvm.Cond.laysFinal "com/example/endless_runs/endlessruns/hoa/HoaLexer$Token" "com/example/endless_runs/endlessruns/hoa/HoaLexer$Token" "automaton" "I").before a0 Z = true := hw _ (List.mem_of_getElem? (i := 47) rfl)
theorem wd48 {a0 : Array Value} {Z : State} (hw : ∀ d ∈ tables_1, d.before a0 Z = true) : (Jvm.Cond.fieldLink "com/example/endless_runs/endlessruns/hoa/HoaLexer$Token" (24 : Nat) "com/example/endless_runs/endlessruns/hoa/HoaLexer$Token" "line" "I").before a0 Z = true := hw _ (List.mem_of_getElem? (i := 48) rfl)
theorem wd49 {a0 : Array Value} {Z : State} (hw : ∀ d ∈ tables_1, d.before a0 Z = true) : (Jvm.Cond.laysFinal "com/example/endless_runs/endlessruns/hoa/HoaLexer$Token" "com/example/endless_runs/endlessruns/hoa/HoaLexer$Token" "line" "I").before a0 Z = true := hw _ (List.mem_of_getElem? (i := 49) rfl)
theorem wd50 {a0 : Array Value} {Z : State} (hw : ∀ d ∈ tables_1, d.before a0 Z = true) : (Jvm.Cond.methodLink "com/example/endless_runs/endlessruns/hoa/TokenIsPinLaw" (85 : Nat) ({ cls := "com/example/endless_runs/endlessruns/hoa/HoaLexer$Token", name := "is", desc := "(Lcom/example/endless_runs/endlessruns/hoa/HoaLexer$Kind;Ljava/lang/String;)Z" } : Jvm.MethodName)).before a0 Z = true := hw _ (List.mem_of_getElem? (i := 50) rfl)
theorem wd51 {a0 : Array Value} {Z : State} (hw : ∀ d ∈ tables_1, d.before a0 Z = true) : (Jvm.Cond.declares ({ cls := "com/example/endless_runs/endlessruns/hoa/HoaLexer$Token", name := "is", desc := "(Lcom/example/endless_runs/endlessruns/hoa/HoaLexer$Kind;Ljava/lang/String;)Z" } : Jvm.MethodName)).before a0 Z = true := hw _ (List.mem_of_getElem? (i := 51) rfl)
theorem wd52 {a0 : Array Value} {Z : State} (hw : ∀ d ∈ tables_1, d.before a0 Z = true) : (Jvm.Cond.instanceMethod ({ cls := "com/example/endless_runs/endlessruns/hoa/HoaLexer$Token", name := "is", desc := "(Lcom/example/endless_runs/endlessruns/hoa/HoaLexer$Kind;Ljava/lang/String;)Z" } : Jvm.MethodName)).before a0 Z = true := hw _ (List.mem_of_getElem? (i := 52) rfl)
theorem wd53 {a0 : Array Value} {Z : State} (hw : ∀ d ∈ tables_1, d.before a0 Z = true) : (Jvm.Cond.selects "com/example/endless_runs/endlessruns/hoa/HoaLexer$Token" ({ cls := "com/example/endless_runs/endlessruns/hoa/HoaLexer$Token", name := "is", desc := "(Lcom/example/endless_runs/endlessruns/hoa/HoaLexer$Kind;Ljava/lang/String;)Z" } : Jvm.MethodName) ({ cls := "com/example/endless_runs/endlessruns/hoa/HoaLexer$Token", name := "is", desc := "(Lcom/example/endless_runs/endlessruns/hoa/HoaLexer$Kind;Ljava/lang/String;)Z" } : Jvm.MethodName)).before a0 Z = true := hw _ (List.mem_of_getElem? (i := 53) rfl)
theorem wd54 {a0 : Array Value} {Z : State} (hw : ∀ d ∈ tables_1, d.before a0 Z = true) : (Jvm.Cond.code ({ cls := "com/example/endless_runs/endlessruns/hoa/HoaLexer$Token", name := "is", desc := "(Lcom/example/endless_runs/endlessruns/hoa/HoaLexer$Kind;Ljava/lang/String;)Z" } : Jvm.MethodName) prog_74_method_5_code (3 : Nat) (Option.some Jvm.ClassFile.FieldType.boolean)).before a0 Z = true := hw _ (List.mem_of_getElem? (i := 54) rfl)
theorem wd55 {a0 : Array Value} {Z : State} (hw : ∀ d ∈ tables_1, d.before a0 Z = true) : (Jvm.Cond.methodLink "com/example/endless_runs/endlessruns/hoa/HoaLexer$Token" (27 : Nat) ({ cls := "java/lang/String", name := "equals", desc := "(Ljava/lang/Object;)Z" } : Jvm.MethodName)).before a0 Z = true := hw _ (List.mem_of_getElem? (i := 55) rfl)
theorem wd56 {a0 : Array Value} {Z : State} (hw : ∀ d ∈ tables_1, d.before a0 Z = true) : (Jvm.Cond.declares ({ cls := "java/lang/String", name := "equals", desc := "(Ljava/lang/Object;)Z" } : Jvm.MethodName)).before a0 Z = true := hw _ (List.mem_of_getElem? (i := 56) rfl)
theorem wd57 {a0 : Array Value} {Z : State} (hw : ∀ d ∈ tables_1, d.before a0 Z = true) : (Jvm.Cond.instanceMethod ({ cls := "java/lang/String", name := "equals", desc := "(Ljava/lang/Object;)Z" } : Jvm.MethodName)).before a0 Z = true := hw _ (List.mem_of_getElem? (i := 57) rfl)
theorem wd58 {a0 : Array Value} {Z : State} (hw : ∀ d ∈ tables_1, d.before a0 Z = true) : (Jvm.Cond.selects "java/lang/String" ({ cls := "java/lang/String", name := "equals", desc := "(Ljava/lang/Object;)Z" } : Jvm.MethodName) ({ cls := "java/lang/String", name := "equals", desc := "(Ljava/lang/Object;)Z" } : Jvm.MethodName)).before a0 Z = true := hw _ (List.mem_of_getElem? (i := 58) rfl)
theorem wd61 {a0 : Array Value} {Z : State} (hw : ∀ d ∈ tables_1, d.before a0 Z = true) : (Jvm.Cond.fieldLink "java/lang/String" (38 : Nat) "java/lang/String" "COMPACT_STRINGS" "Z").before a0 Z = true := hw _ (List.mem_of_getElem? (i := 61) rfl)
theorem wd66 {a0 : Array Value} {Z : State} (hw : ∀ d ∈ tables_1, d.before a0 Z = true) : (Jvm.Cond.fieldLink "com/example/endless_runs/endlessruns/hoa/TokenIsPinLaw" (19 : Nat) "com/example/endless_runs/endlessruns/hoa/HoaLexer$Kind" "STRING" "Lcom/example/endless_runs/endlessruns/hoa/HoaLexer$Kind;").before a0 Z = true := hw _ (List.mem_of_getElem? (i := 66) rfl)
theorem wd67 {a0 : Array Value} {Z : State} (hw : ∀ d ∈ tables_1, d.before a0 Z = true) : (Jvm.Cond.laysStatic "com/example/endless_runs/endlessruns/hoa/HoaLexer$Kind" "STRING" "Lcom/example/endless_runs/endlessruns/hoa/HoaLexer$Kind;").before a0 Z = true := hw _ (List.mem_of_getElem? (i := 67) rfl)
theorem wd68 {a0 : Array Value} {Z : State} (hw : ∀ d ∈ tables_1, d.before a0 Z = true) : (Jvm.Cond.fieldLink "com/example/endless_runs/endlessruns/hoa/TokenIsPinLaw" (34 : Nat) "com/example/endless_runs/endlessruns/hoa/HoaLexer$Kind" "LEFT_PAREN" "Lcom/example/endless_runs/endlessruns/hoa/HoaLexer$Kind;").before a0 Z = true := hw _ (List.mem_of_getElem? (i := 68) rfl)
theorem wd69 {a0 : Array Value} {Z : State} (hw : ∀ d ∈ tables_1, d.before a0 Z = true) : (Jvm.Cond.laysStatic "com/example/endless_runs/endlessruns/hoa/HoaLexer$Kind" "LEFT_PAREN" "Lcom/example/endless_runs/endlessruns/hoa/HoaLexer$Kind;").before a0 Z = true := hw _ (List.mem_of_getElem? (i := 69) rfl)
theorem wd70 {a0 : Array Value} {Z : State} (hw : ∀ d ∈ tables_1, d.before a0 Z = true) : (Jvm.Cond.fieldLink "com/example/endless_runs/endlessruns/hoa/TokenIsPinLaw" (22 : Nat) "com/example/endless_runs/endlessruns/hoa/HoaLexer$Kind" "ALIAS" "Lcom/example/endless_runs/endlessruns/hoa/HoaLexer$Kind;").before a0 Z = true := hw _ (List.mem_of_getElem? (i := 70) rfl)
theorem wd71 {a0 : Array Value} {Z : State} (hw : ∀ d ∈ tables_1, d.before a0 Z = true) : (Jvm.Cond.laysStatic "com/example/endless_runs/endlessruns/hoa/HoaLexer$Kind" "ALIAS" "Lcom/example/endless_runs/endlessruns/hoa/HoaLexer$Kind;").before a0 Z = true := hw _ (List.mem_of_getElem? (i := 71) rfl)
theorem wd72 {a0 : Array Value} {Z : State} (hw : ∀ d ∈ tables_1, d.before a0 Z = true) : (Jvm.Cond.methodLink "java/lang/String" (177 : Nat) ({ cls := "java/lang/StringUTF16", name := "compress", desc := "([CII)[B" } : Jvm.MethodName)).before a0 Z = true := hw _ (List.mem_of_getElem? (i := 72) rfl)
theorem wd73 {a0 : Array Value} {Z : State} (hw : ∀ d ∈ tables_1, d.before a0 Z = true) : (Jvm.Cond.static ({ cls := "java/lang/StringUTF16", name := "compress", desc := "([CII)[B" } : Jvm.MethodName)).before a0 Z = true := hw _ (List.mem_of_getElem? (i := 73) rfl)
theorem wd74 {a0 : Array Value} {Z : State} (hw : ∀ d ∈ tables_1, d.before a0 Z = true) : (Jvm.Cond.initialized "java/lang/StringUTF16").before a0 Z = true := hw _ (List.mem_of_getElem? (i := 74) rfl)
theorem wd75 {a0 : Array Value} {Z : State} (hw : ∀ d ∈ tables_1, d.before a0 Z = true) : (Jvm.Cond.code ({ cls := "java/lang/StringUTF16", name := "compress", desc := "([CII)[B" } : Jvm.MethodName) jdk_52_method_16_code (6 : Nat) (Option.some (Jvm.ClassFile.FieldType.array Jvm.ClassFile.FieldType.byte))).before a0 Z = true := hw _ (List.mem_of_getElem? (i := 75) rfl)
theorem wd76 {a0 : Array Value} {Z : State} (hw : ∀ d ∈ tables_1, d.before a0 Z = true) : (Jvm.Cond.methodLink "java/lang/StringUTF16" (115 : Nat) ({ cls := "java/lang/StringUTF16", name := "compress", desc := "([CI[BII)I" } : Jvm.MethodName)).before a0 Z = true := hw _ (List.mem_of_getElem? (i := 76) rfl)
theorem wd77 {a0 : Array Value} {Z : State} (hw : ∀ d ∈ tables_1, d.before a0 Z = true) : (Jvm.Cond.static ({ cls := "java/lang/StringUTF16", name := "compress", desc := "([CI[BII)I" } : Jvm.MethodName)).before a0 Z = true := hw _ (List.mem_of_getElem? (i := 77) rfl)
theorem wd78 {a0 : Array Value} {Z : State} (hw : ∀ d ∈ tables_1, d.before a0 Z = true) : (Jvm.Cond.code ({ cls := "java/lang/StringUTF16", name := "compress", desc := "([CI[BII)I" } : Jvm.MethodName) jdk_52_method_21_code (7 : Nat) (Option.some Jvm.ClassFile.FieldType.int)).before a0 Z = true := hw _ (List.mem_of_getElem? (i := 78) rfl)
theorem wd79 {a0 : Array Value} {Z : State} (hw : ∀ d ∈ tables_1, d.before a0 Z = true) : (Jvm.Cond.methodLink "java/lang/String" (47 : Nat) ({ cls := "java/lang/StringUTF16", name := "coderFromArrayLen", desc := "([BI)B" } : Jvm.MethodName)).before a0 Z = true := hw _ (List.mem_of_getElem? (i := 79) rfl)
theorem wd80 {a0 : Array Value} {Z : State} (hw : ∀ d ∈ tables_1, d.before a0 Z = true) : (Jvm.Cond.static ({ cls := "java/lang/StringUTF16", name := "coderFromArrayLen", desc := "([BI)B" } : Jvm.MethodName)).before a0 Z = true := hw _ (List.mem_of_getElem? (i := 80) rfl)
theorem wd81 {a0 : Array Value} {Z : State} (hw : ∀ d ∈ tables_1, d.before a0 Z = true) : (Jvm.Cond.code ({ cls := "java/lang/StringUTF16", name := "coderFromArrayLen", desc := "([BI)B" } : Jvm.MethodName) jdk_52_method_15_code (2 : Nat) (Option.some Jvm.ClassFile.FieldType.byte)).before a0 Z = true := hw _ (List.mem_of_getElem? (i := 81) rfl)
theorem wd82 {a0 : Array Value} {Z : State} (hw : ∀ d ∈ tables_1, d.before a0 Z = true) : (Jvm.Cond.fieldLink "com/example/endless_runs/endlessruns/hoa/TokenIsPinLaw" (55 : Nat) "com/example/endless_runs/endlessruns/hoa/HoaLexer$Kind" "END" "Lcom/example/endless_runs/endlessruns/hoa/HoaLexer$Kind;").before a0 Z = true := hw _ (List.mem_of_getElem? (i := 82) rfl)
theorem wd83 {a0 : Array Value} {Z : State} (hw : ∀ d ∈ tables_1, d.before a0 Z = true) : (Jvm.Cond.laysStatic "com/example/endless_runs/endlessruns/hoa/HoaLexer$Kind" "END" "Lcom/example/endless_runs/endlessruns/hoa/HoaLexer$Kind;").before a0 Z = true := hw _ (List.mem_of_getElem? (i := 83) rfl)
theorem wd84 {a0 : Array Value} {Z : State} (hw : ∀ d ∈ tables_1, d.before a0 Z = true) : (Jvm.Cond.fieldLink "com/example/endless_runs/endlessruns/hoa/TokenIsPinLaw" (31 : Nat) "com/example/endless_runs/endlessruns/hoa/HoaLexer$Kind" "OR" "Lcom/example/endless_runs/endlessruns/hoa/HoaLexer$Kind;").before a0 Z = true := hw _ (List.mem_of_getElem? (i := 84) rfl)
theorem wd85 {a0 : Array Value} {Z : State} (hw : ∀ d ∈ tables_1, d.before a0 Z = true) : (Jvm.Cond.laysStatic "com/example/endless_runs/endlessruns/hoa/HoaLexer$Kind" "OR" "Lcom/example/endless_runs/endlessruns/hoa/HoaLexer$Kind;").before a0 Z = true := hw _ (List.mem_of_getElem? (i := 85) rfl)
theorem wd86 {a0 : Array Value} {Z : State} (hw : ∀ d ∈ tables_1, d.before a0 Z = true) : (Jvm.Cond.fieldLink "com/example/endless_runs/endlessruns/hoa/TokenIsPinLaw" (58 : Nat) "com/example/endless_runs/endlessruns/hoa/HoaLexer$Kind" "ABORT" "Lcom/example/endless_runs/endlessruns/hoa/HoaLexer$Kind;").before a0 Z = true := hw _ (List.mem_of_getElem? (i := 86) rfl)
theorem wd87 {a0 : Array Value} {Z : State} (hw : ∀ d ∈ tables_1, d.before a0 Z = true) : (Jvm.Cond.laysStatic "com/example/endless_runs/endlessruns/hoa/HoaLexer$Kind" "ABORT" "Lcom/example/endless_runs/endlessruns/hoa/HoaLexer$Kind;").before a0 Z = true := hw _ (List.mem_of_getElem? (i := 87) rfl)
theorem wd88 {a0 : Array Value} {Z : State} (hw : ∀ d ∈ tables_1, d.before a0 Z = true) : (Jvm.Cond.fieldLink "com/example/endless_runs/endlessruns/hoa/TokenIsPinLaw" (46 : Nat) "com/example/endless_runs/endlessruns/hoa/HoaLexer$Kind" "LEFT_BRACE" "Lcom/example/endless_runs/endlessruns/hoa/HoaLexer$Kind;").before a0 Z = true := hw _ (List.mem_of_getElem? (i := 88) rfl)
theorem wd89 {a0 : Array Value} {Z : State} (hw : ∀ d ∈ tables_1, d.before a0 Z = true) : (Jvm.Cond.laysStatic "com/example/endless_runs/endlessruns/hoa/HoaLexer$Kind" "LEFT_BRACE" "Lcom/example/endless_runs/endlessruns/hoa/HoaLexer$Kind;").before a0 Z = true := hw _ (List.mem_of_getElem? (i := 89) rfl)
theorem wd90 {a0 : Array Value} {Z : State} (hw : ∀ d ∈ tables_1, d.before a0 Z = true) : (Jvm.Cond.fieldLink "com/example/endless_runs/endlessruns/hoa/TokenIsPinLaw" (40 : Nat) "com/example/endless_runs/endlessruns/hoa/HoaLexer$Kind" "LEFT_BRACKET" "Lcom/example/endless_runs/endlessruns/hoa/HoaLexer$Kind;").before a0 Z = true := hw _ (List.mem_of_getElem? (i := 90) rfl)
theorem wd91 {a0 : Array Value} {Z : State} (hw : ∀ d ∈ tables_1, d.before a0 Z = true) : (Jvm.Cond.laysStatic "com/example/endless_runs/endlessruns/hoa/HoaLexer$Kind" "LEFT_BRACKET" "Lcom/example/endless_runs/endlessruns/hoa/HoaLexer$Kind;").before a0 Z = true := hw _ (List.mem_of_getElem? (i := 91) rfl)
theorem wd92 {a0 : Array Value} {Z : State} (hw : ∀ d ∈ tables_1, d.before a0 Z = true) : (Jvm.Cond.fieldLink "com/example/endless_runs/endlessruns/hoa/TokenIsPinLaw" (13 : Nat) "com/example/endless_runs/endlessruns/hoa/HoaLexer$Kind" "IDENTIFIER" "Lcom/example/endless_runs/endlessruns/hoa/HoaLexer$Kind;").before a0 Z = true := hw _ (List.mem_of_getElem? (i := 92) rfl)
theorem wd93 {a0 : Array Value} {Z : State} (hw : ∀ d ∈ tables_1, d.before a0 Z = true) : (Jvm.Cond.laysStatic "com/example/endless_runs/endlessruns/hoa/HoaLexer$Kind" "IDENTIFIER" "Lcom/example/endless_runs/endlessruns/hoa/HoaLexer$Kind;").before a0 Z = true := hw _ (List.mem_of_getElem? (i := 93) rfl)
theorem wd94 {a0 : Array Value} {Z : State} (hw : ∀ d ∈ tables_1, d.before a0 Z = true) : (Jvm.Cond.fieldLink "com/example/endless_runs/endlessruns/hoa/TokenIsPinLaw" (37 : Nat) "com/example/endless_runs/endlessruns/hoa/HoaLexer$Kind" "RIGHT_PAREN" "Lcom/example/endless_runs/endlessruns/hoa/HoaLexer$Kind;").before a0 Z = true := hw _ (List.mem_of_getElem? (i := 94) rfl)
theorem wd95 {a0 : Array Value} {Z : State} (hw : ∀ d ∈ tables_1, d.before a0 Z = true) : (Jvm.Cond.laysStatic "com/example/endless_runs/endlessruns/hoa/HoaLexer$Kind" "RIGHT_PAREN" "Lcom/example/endless_runs/endlessruns/hoa/HoaLexer$Kind;").before a0 Z = true := hw _ (List.mem_of_getElem? (i := 95) rfl)
theorem wd96 {a0 : Array Value} {Z : State} (hw : ∀ d ∈ tables_1, d.before a0 Z = true) : (Jvm.Cond.fieldLink "com/example/endless_runs/endlessruns/hoa/TokenIsPinLaw" (28 : Nat) "com/example/endless_runs/endlessruns/hoa/HoaLexer$Kind" "AND" "Lcom/example/endless_runs/endlessruns/hoa/HoaLexer$Kind;").before a0 Z = true := hw _ (List.mem_of_getElem? (i := 96) rfl)
theorem wd97 {a0 : Array Value} {Z : State} (hw : ∀ d ∈ tables_1, d.before a0 Z = true) : (Jvm.Cond.laysStatic "com/example/endless_runs/endlessruns/hoa/HoaLexer$Kind" "AND" "Lcom/example/endless_runs/endlessruns/hoa/HoaLexer$Kind;").before a0 Z = true := hw _ (List.mem_of_getElem? (i := 97) rfl)
theorem wd98 {a0 : Array Value} {Z : State} (hw : ∀ d ∈ tables_1, d.before a0 Z = true) : (Jvm.Cond.fieldLink "com/example/endless_runs/endlessruns/hoa/TokenIsPinLaw" (49 : Nat) "com/example/endless_runs/endlessruns/hoa/HoaLexer$Kind" "RIGHT_BRACE" "Lcom/example/endless_runs/endlessruns/hoa/HoaLexer$Kind;").before a0 Z = true := hw _ (List.mem_of_getElem? (i := 98) rfl)
theorem wd99 {a0 : Array Value} {Z : State} (hw : ∀ d ∈ tables_1, d.before a0 Z = true) : (Jvm.Cond.laysStatic "com/example/endless_runs/endlessruns/hoa/HoaLexer$Kind" "RIGHT_BRACE" "Lcom/example/endless_runs/endlessruns/hoa/HoaLexer$Kind;").before a0 Z = true := hw _ (List.mem_of_getElem? (i := 99) rfl)
theorem wd100 {a0 : Array Value} {Z : State} (hw : ∀ d ∈ tables_1, d.before a0 Z = true) : (Jvm.Cond.fieldLink "com/example/endless_runs/endlessruns/hoa/TokenIsPinLaw" (16 : Nat) "com/example/endless_runs/endlessruns/hoa/HoaLexer$Kind" "INTEGER" "Lcom/example/endless_runs/endlessruns/hoa/HoaLexer$Kind;").before a0 Z = true := hw _ (List.mem_of_getElem? (i := 100) rfl)
theorem wd101 {a0 : Array Value} {Z : State} (hw : ∀ d ∈ tables_1, d.before a0 Z = true) : (Jvm.Cond.laysStatic "com/example/endless_runs/endlessruns/hoa/HoaLexer$Kind" "INTEGER" "Lcom/example/endless_runs/endlessruns/hoa/HoaLexer$Kind;").before a0 Z = true := hw _ (List.mem_of_getElem? (i := 101) rfl)
theorem wd102 {a0 : Array Value} {Z : State} (hw : ∀ d ∈ tables_1, d.before a0 Z = true) : (Jvm.Cond.fieldLink "com/example/endless_runs/endlessruns/hoa/TokenIsPinLaw" (52 : Nat) "com/example/endless_runs/endlessruns/hoa/HoaLexer$Kind" "BODY" "Lcom/example/endless_runs/endlessruns/hoa/HoaLexer$Kind;").before a0 Z = true := hw _ (List.mem_of_getElem? (i := 102) rfl)
theorem wd103 {a0 : Array Value} {Z : State} (hw : ∀ d ∈ tables_1, d.before a0 Z = true) : (Jvm.Cond.laysStatic "com/example/endless_runs/endlessruns/hoa/HoaLexer$Kind" "BODY" "Lcom/example/endless_runs/endlessruns/hoa/HoaLexer$Kind;").before a0 Z = true := hw _ (List.mem_of_getElem? (i := 103) rfl)
theorem wd104 {a0 : Array Value} {Z : State} (hw : ∀ d ∈ tables_1, d.before a0 Z = true) : (Jvm.Cond.fieldLink "com/example/endless_runs/endlessruns/hoa/TokenIsPinLaw" (25 : Nat) "com/example/endless_runs/endlessruns/hoa/HoaLexer$Kind" "NOT" "Lcom/example/endless_runs/endlessruns/hoa/HoaLexer$Kind;").before a0 Z = true := hw _ (List.mem_of_getElem? (i := 104) rfl)
theorem wd105 {a0 : Array Value} {Z : State} (hw : ∀ d ∈ tables_1, d.before a0 Z = true) : (Jvm.Cond.laysStatic "com/example/endless_runs/endlessruns/hoa/HoaLexer$Kind" "NOT" "Lcom/example/endless_runs/endlessruns/hoa/HoaLexer$Kind;").before a0 Z = true := hw _ (List.mem_of_getElem? (i := 105) rfl)
theorem wd106 {a0 : Array Value} {Z : State} (hw : ∀ d ∈ tables_1, d.before a0 Z = true) : (Jvm.Cond.fieldLink "com/example/endless_runs/endlessruns/hoa/TokenIsPinLaw" (61 : Nat) "com/example/endless_runs/endlessruns/hoa/HoaLexer$Kind" "END_OF_INPUT" "Lcom/example/endless_runs/endlessruns/hoa/HoaLexer$Kind;").before a0 Z = true := hw _ (List.mem_of_getElem? (i := 106) rfl)
theorem wd107 {a0 : Array Value} {Z : State} (hw : ∀ d ∈ tables_1, d.before a0 Z = true) : (Jvm.Cond.laysStatic "com/example/endless_runs/endlessruns/hoa/HoaLexer$Kind" "END_OF_INPUT" "Lcom/example/endless_runs/endlessruns/hoa/HoaLexer$Kind;").before a0 Z = true := hw _ (List.mem_of_getElem? (i := 107) rfl)
theorem wd108 {a0 : Array Value} {Z : State} (hw : ∀ d ∈ tables_1, d.before a0 Z = true) : (Jvm.Cond.fieldLink "com/example/endless_runs/endlessruns/hoa/TokenIsPinLaw" (43 : Nat) "com/example/endless_runs/endlessruns/hoa/HoaLexer$Kind" "RIGHT_BRACKET" "Lcom/example/endless_runs/endlessruns/hoa/HoaLexer$Kind;").before a0 Z = true := hw _ (List.mem_of_getElem? (i := 108) rfl)
theorem wd109 {a0 : Array Value} {Z : State} (hw : ∀ d ∈ tables_1, d.before a0 Z = true) : (Jvm.Cond.laysStatic "com/example/endless_runs/endlessruns/hoa/HoaLexer$Kind" "RIGHT_BRACKET" "Lcom/example/endless_runs/endlessruns/hoa/HoaLexer$Kind;").before a0 Z = true := hw _ (List.mem_of_getElem? (i := 109) rfl)

/-! String constants: the words, the invariant -/
theorem own_safe_raw {Z : State} {EL : List (String × Nat)} {vm : Vm} {h : Heap} {x : Addr} (hal : Z.vm.Alike vm) (E : Exa Z h x "java/lang/String") (F : Fld Z h x "java/lang/String" "value" "[B" .null) : Safe Z EL vm h x := fun B => by
  obtain ⟨p, -, u, a, -, q, -, S, hx⟩ := B
  obtain ⟨cell, kc, e1, e2, -⟩ := E
  rcases hx with rfl | rfl
  · obtain ⟨cS, ⟨⟨h1, -, -, ⟨c1, k1, i1, f1, -⟩, -, -, -, v1, -⟩, -⟩, -⟩ := S
    obtain ⟨cl, cf, k, i, f, g1, g2, -, -, -, -, g7⟩ := F
    obtain ⟨k3, e3, -⟩ := State.fieldFound?_setVm (s := Z) hal g2
    have e4 := (show (Wst Z vm h).fieldFound? _ _ _ = _ from e3).symm.trans f1
    simp only [Option.some.injEq, Prod.mk.injEq] at e4
    cases g1.symm.trans h1
    rw [e4.2.2.2, v1] at g7
    simp at g7
  · have h2 := S.hd
    obtain ⟨cS, -, -, h4, -⟩ := S
    cases e1.symm.trans h2
    have h5 : Z.vm.findClass "[B" = some q.SA.cls := by rw [← hal.findClass]; exact h4
    obtain ⟨k1, a1, a2⟩ := Vm.findClass_spec e2
    obtain ⟨k2, b1, b2⟩ := Vm.findClass_spec h5
    cases a1.symm.trans b1
    exact absurd (a2.symm.trans b2) (by decide)
abbrev ELs : List (String × Nat) := [("java/lang/String", 7)]
theorem own_wS {a0 : Array Value} {Z : State} (hw : ∀ d ∈ tables_1, d.before a0 Z = true) : ∀ a ∈ Bundle.stringAtoms, a.before a0 Z = true := fun d hd => hw d ((by decide +kernel : ∀ d ∈ Bundle.stringAtoms, d ∈ tables_1) d hd)
theorem own_EW {a0 : Array Value} {Z : State} (hw : ∀ d ∈ tables_1, d.before a0 Z = true) : EW Z a0 ELs := (EW.cons (wd25 hw) (by decide) EW.nil)

/-! Strings of Latin-1 chars -/
def LStr (Z : State) (h : Heap) (x t : Addr) (cs : List Int32) : Prop :=
  Exa Z h x "java/lang/String" ∧ Fld Z h x "java/lang/String" "value" "[B" (.ref t) ∧ Fld Z h x "java/lang/String" "coder" "B" (.int (0 : Int32)) ∧
    (∃ kb : ClassId, Arv Z h t kb .byte (Int32.ofNat cs.length) (cs.map fun c => Value.int c.toInt8.toInt32) (.int (0 : Int32))) ∧ (∀ c ∈ cs, ¬ c < 0 ∧ ¬ (255 : Int32) < c) ∧ cs.length ≤ 4000
section OwnStr
variable {Z : State} {h h' : Heap} {x t : Addr} {cs : List Int32} {ws : List Addr}
theorem LStr.ext (F : LStr Z h x t cs) (E : Ext h h') : LStr Z h' x t cs := by
  obtain ⟨a, b, c, ⟨kb, d⟩, f⟩ := F; exact ⟨a.ext E, b.ext E, c.ext E, ⟨kb, d.ext E⟩, f⟩
theorem LStr.keep (F : LStr Z h x t cs) (K : Keep h h' ws) (q : x ∉ ws) (r : t ∉ ws) : LStr Z h' x t cs := by
  obtain ⟨a, b, c, ⟨kb, d⟩, f⟩ := F; exact ⟨a.keep K, b.keep K q, c.keep K q, ⟨kb, d.keep K r⟩, f⟩
theorem LStr.lt (F : LStr Z h x t cs) : x < h.size := F.1.lt
theorem LStr.ltt (F : LStr Z h x t cs) : t < h.size := by obtain ⟨_, _, _, ⟨_, d⟩, _⟩ := F; exact d.lt
theorem own_shr0 (n : Nat) : ((Int32.ofNat n) >>> ((0 : Int32) &&& 31)) = Int32.ofNat n := by
  rw [show ((0 : Int32) &&& 31) = 0 from by decide]; exact Int32.shiftRight_zero
theorem own_len_nn {n : Nat} (h : n ≤ 4000) : ¬ Int32.ofNat n < 0 := by rw [Int32.lt_iff_toInt_lt, Int32.toInt_ofNat_small (by omega)]; simp
theorem own_j0 {j : Int32} {i n : Nat} (hj : j = Int32.ofNat i) (hi : i < n) (hl : n ≤ 4000) : ¬ (j < (0 : Int32)) := by rw [hj]; exact own_len_nn (by omega)
theorem own_jn {j : Int32} {i n : Nat} (hj : j = Int32.ofNat i) (hi : i < n) (hl : n ≤ 4000) : j < Int32.ofNat n := by
  rw [hj, Int32.lt_iff_toInt_lt, Int32.toInt_ofNat_small (by omega), Int32.toInt_ofNat_small (by omega)]; omega
theorem own_jt {j : Int32} {i n : Nat} (hj : j = Int32.ofNat i) (hi : i < n) (hl : n ≤ 4000) : j.toNatClampNeg = i := by rw [hj]; exact Int32.toNatClampNeg_ofNat_of_lt (by omega)
theorem own_vs_at {i : Nat} (hi : i < cs.length) : (cs.map fun c => Value.int c.toInt8.toInt32).getD i (.int (0 : Int32)) = .int ((cs.getD i 0).toInt8.toInt32) := by
  simp [List.getD_eq_getElem?_getD, hi]
theorem own_getD_mem {i : Nat} (hi : i < cs.length) : cs.getD i 0 ∈ cs := by
  rw [show cs.getD i 0 = cs[i] from by simp [List.getD_eq_getElem?_getD, hi]]; exact List.getElem_mem _
theorem own_ch_bv : ∀ n, n < 256 → ((((Int32.ofNat n).toInt8.toInt32 &&& (255 : Int32)).toUInt32.toUInt16.toUInt32.toInt32).toUInt32.toUInt16.toUInt32.toInt32) = Int32.ofNat n := by decide +kernel
theorem own_ch_back {c : Int32} (h : ¬ c < 0 ∧ ¬ (255 : Int32) < c) : nar .char ((c.toInt8.toInt32 &&& (255 : Int32)).toUInt32.toUInt16.toUInt32.toInt32) = c := by
  have e := (back32 h.1).1
  have h2 : c.toNatClampNeg < 256 := by
    have := nat_of h.1; have h3 := h.2; rw [Int32.lt_iff_toInt_lt, this] at h3
    have : ¬ (255 : Int) < (c.toNatClampNeg : Int) := h3
    omega
  have := own_ch_bv c.toNatClampNeg h2
  rw [show Int32.ofNat c.toNatClampNeg = c from e] at this
  exact this
theorem own_nar_char : ∀ n, n < 65536 → nar .char (Int32.ofNat n) = Int32.ofNat n := fun n hn => by
  show (Int32.ofNat n).toUInt32.toUInt16.toUInt32.toInt32 = Int32.ofNat n
  apply Int32.toInt_inj.mp
  rw [Int32.toInt_ofNat_small (by omega)]
  have e : (Int32.ofNat n).toUInt32.toUInt16.toUInt32.toNat = n := by
    simp only [UInt16.toNat_toUInt32, UInt32.toNat_toUInt16]
    show (Int32.ofNat n).toUInt32.toNat % 2 ^ 16 = n
    rw [show (Int32.ofNat n).toUInt32 = UInt32.ofNat n from rfl, UInt32.toNat_ofNat_of_lt' (by show n < 2 ^ 32; omega)]
    omega
  show (((Int32.ofNat n).toUInt32.toUInt16.toUInt32).toInt32).toInt = _
  rw [show ((Int32.ofNat n).toUInt32.toUInt16.toUInt32).toInt32 = Int32.ofNat ((Int32.ofNat n).toUInt32.toUInt16.toUInt32.toNat) from by
    generalize (Int32.ofNat n).toUInt32.toUInt16.toUInt32 = u
    apply Int32.toBitVec_inj.mp; simp [Int32.toBitVec_ofNat], e, Int32.toInt_ofNat_small (by omega)]
theorem own_nar_c {c : Int32} (h : ¬ c < 0 ∧ ¬ (255 : Int32) < c) : nar .char c = c := by
  have e := (back32 h.1).1
  have h2 : c.toNatClampNeg < 65536 := by
    have := nat_of h.1; have h3 := h.2; rw [Int32.lt_iff_toInt_lt, this] at h3
    have : ¬ (255 : Int) < (c.toNatClampNeg : Int) := h3
    omega
  have := own_nar_char c.toNatClampNeg h2
  rw [show Int32.ofNat c.toNatClampNeg = c from e] at this
  exact this
end OwnStr

theorem own_up {cs : List Int32} (h : ∀ c ∈ cs, ¬ c < 0 ∧ ¬ (255 : Int32) < c) : ∀ c ∈ cs, ¬ c < 0 ∧ ¬ (65535 : Int32) < c := fun c hc => ⟨(h c hc).1, fun q => (h c hc).2 (by
  rw [Int32.lt_iff_toInt_lt] at q ⊢
  have a1 : (65535 : Int32).toInt = 65535 := by decide
  have a2 : (255 : Int32).toInt = 255 := by decide
  omega)⟩
theorem own_cod {cs : List Int32} (h : ∀ c ∈ cs, ¬ c < 0 ∧ ¬ (255 : Int32) < c) : StrChars.Road.CodA cs 0 (Int32.ofNat cs.length) (cs.map fun c => Value.int c.toInt8.toInt32) := Or.inl ⟨rfl, rfl, rfl, fun c hc => (h c hc).2⟩
theorem own_i8 (x : Int32) : (x.toInt8.toInt32).toInt8.toInt32 = x.toInt8.toInt32 := by simp
theorem own_cfal (j : Int32) : nar .byte ((((j - j).toUInt32 >>> ((31 : Int32) &&& 31).toUInt32).toInt32).toInt8.toInt32) = 0 := by rw [Int32.sub_self]; decide

theorem own_17 {i : Int32} (hi0 : ¬ (i < (0 : Int32))) (h18 : i < (18 : Int32)) (n0 : ¬ (i = (0 : Int32))) (n1 : ¬ (i = (1 : Int32))) (n2 : ¬ (i = (2 : Int32))) (n3 : ¬ (i = (3 : Int32))) (n4 : ¬ (i = (4 : Int32))) (n5 : ¬ (i = (5 : Int32))) (n6 : ¬ (i = (6 : Int32))) (n7 : ¬ (i = (7 : Int32))) (n8 : ¬ (i = (8 : Int32))) (n9 : ¬ (i = (9 : Int32))) (n10 : ¬ (i = (10 : Int32))) (n11 : ¬ (i = (11 : Int32))) (n12 : ¬ (i = (12 : Int32))) (n13 : ¬ (i = (13 : Int32))) (n14 : ¬ (i = (14 : Int32))) (n15 : ¬ (i = (15 : Int32))) (n16 : ¬ (i = (16 : Int32))) : i.toNatClampNeg = 17 := by
  have e := (back32 hi0).1
  have hn := nat_of hi0
  have hl : i.toNatClampNeg < 18 := by rw [Int32.lt_iff_toInt_lt, hn] at h18; have : ((i.toNatClampNeg : Nat) : Int) < 18 := h18; omega
  have key : ∀ k, k < 17 → i.toNatClampNeg ≠ k := fun k hk q => by
    have e2 : i = Int32.ofNat k := by rw [← e, q]
    have hh : k = 0 ∨ k = 1 ∨ k = 2 ∨ k = 3 ∨ k = 4 ∨ k = 5 ∨ k = 6 ∨ k = 7 ∨ k = 8 ∨ k = 9 ∨ k = 10 ∨ k = 11 ∨ k = 12 ∨ k = 13 ∨ k = 14 ∨ k = 15 ∨ k = 16 := by omega
    rcases hh with rfl | rfl | rfl | rfl | rfl | rfl | rfl | rfl | rfl | rfl | rfl | rfl | rfl | rfl | rfl | rfl | rfl
    · exact n0 e2
    · exact n1 e2
    · exact n2 e2
    · exact n3 e2
    · exact n4 e2
    · exact n5 e2
    · exact n6 e2
    · exact n7 e2
    · exact n8 e2
    · exact n9 e2
    · exact n10 e2
    · exact n11 e2
    · exact n12 e2
    · exact n13 e2
    · exact n14 e2
    · exact n15 e2
    · exact n16 e2
  by_cases q : i.toNatClampNeg < 17
  · exact absurd rfl (key _ q)
  · omega
theorem d_method_2_code_0 : decode method_2_code 0 = .ok (.iload_n 0, 1) := by decide +kernel
theorem d_method_2_code_1 : decode method_2_code 1 = .ok (.ifCond .ne 7, 3) := by decide +kernel
theorem d_method_2_code_4 : decode method_2_code 4 = .ok (.getstatic 7, 3) := by decide +kernel
theorem d_method_2_code_7 : decode method_2_code 7 = .ok (.areturn, 1) := by decide +kernel
theorem d_method_2_code_8 : decode method_2_code 8 = .ok (.iload_n 0, 1) := by decide +kernel
theorem d_method_2_code_9 : decode method_2_code 9 = .ok (.iconst 1, 1) := by decide +kernel
theorem d_method_2_code_10 : decode method_2_code 10 = .ok (.if_icmp .ne 7, 3) := by decide +kernel
theorem d_method_2_code_13 : decode method_2_code 13 = .ok (.getstatic 13, 3) := by decide +kernel
theorem d_method_2_code_16 : decode method_2_code 16 = .ok (.areturn, 1) := by decide +kernel
theorem d_method_2_code_17 : decode method_2_code 17 = .ok (.iload_n 0, 1) := by decide +kernel
theorem d_method_2_code_18 : decode method_2_code 18 = .ok (.iconst 2, 1) := by decide +kernel
theorem d_method_2_code_19 : decode method_2_code 19 = .ok (.if_icmp .ne 7, 3) := by decide +kernel
theorem d_method_2_code_22 : decode method_2_code 22 = .ok (.getstatic 16, 3) := by decide +kernel
theorem d_method_2_code_25 : decode method_2_code 25 = .ok (.areturn, 1) := by decide +kernel
theorem d_method_2_code_26 : decode method_2_code 26 = .ok (.iload_n 0, 1) := by decide +kernel
theorem d_method_2_code_27 : decode method_2_code 27 = .ok (.iconst 3, 1) := by decide +kernel
theorem d_method_2_code_28 : decode method_2_code 28 = .ok (.if_icmp .ne 7, 3) := by decide +kernel
theorem d_method_2_code_31 : decode method_2_code 31 = .ok (.getstatic 19, 3) := by decide +kernel
theorem d_method_2_code_34 : decode method_2_code 34 = .ok (.areturn, 1) := by decide +kernel
theorem d_method_2_code_35 : decode method_2_code 35 = .ok (.iload_n 0, 1) := by decide +kernel
theorem d_method_2_code_36 : decode method_2_code 36 = .ok (.iconst 4, 1) := by decide +kernel
theorem d_method_2_code_37 : decode method_2_code 37 = .ok (.if_icmp .ne 7, 3) := by decide +kernel
theorem d_method_2_code_40 : decode method_2_code 40 = .ok (.getstatic 22, 3) := by decide +kernel
theorem d_method_2_code_43 : decode method_2_code 43 = .ok (.areturn, 1) := by decide +kernel
theorem d_method_2_code_44 : decode method_2_code 44 = .ok (.iload_n 0, 1) := by decide +kernel
theorem d_method_2_code_45 : decode method_2_code 45 = .ok (.iconst 5, 1) := by decide +kernel
theorem d_method_2_code_46 : decode method_2_code 46 = .ok (.if_icmp .ne 7, 3) := by decide +kernel
theorem d_method_2_code_49 : decode method_2_code 49 = .ok (.getstatic 25, 3) := by decide +kernel
theorem d_method_2_code_52 : decode method_2_code 52 = .ok (.areturn, 1) := by decide +kernel
theorem d_method_2_code_53 : decode method_2_code 53 = .ok (.iload_n 0, 1) := by decide +kernel
theorem d_method_2_code_54 : decode method_2_code 54 = .ok (.bipush 6, 2) := by decide +kernel
theorem d_method_2_code_56 : decode method_2_code 56 = .ok (.if_icmp .ne 7, 3) := by decide +kernel
theorem d_method_2_code_59 : decode method_2_code 59 = .ok (.getstatic 28, 3) := by decide +kernel
theorem d_method_2_code_62 : decode method_2_code 62 = .ok (.areturn, 1) := by decide +kernel
theorem d_method_2_code_63 : decode method_2_code 63 = .ok (.iload_n 0, 1) := by decide +kernel
theorem d_method_2_code_64 : decode method_2_code 64 = .ok (.bipush 7, 2) := by decide +kernel
theorem d_method_2_code_66 : decode method_2_code 66 = .ok (.if_icmp .ne 7, 3) := by decide +kernel
theorem d_method_2_code_69 : decode method_2_code 69 = .ok (.getstatic 31, 3) := by decide +kernel
theorem d_method_2_code_72 : decode method_2_code 72 = .ok (.areturn, 1) := by decide +kernel
theorem d_method_2_code_73 : decode method_2_code 73 = .ok (.iload_n 0, 1) := by decide +kernel
theorem d_method_2_code_74 : decode method_2_code 74 = .ok (.bipush 8, 2) := by decide +kernel
theorem d_method_2_code_76 : decode method_2_code 76 = .ok (.if_icmp .ne 7, 3) := by decide +kernel
theorem d_method_2_code_79 : decode method_2_code 79 = .ok (.getstatic 34, 3) := by decide +kernel
theorem d_method_2_code_82 : decode method_2_code 82 = .ok (.areturn, 1) := by decide +kernel
theorem d_method_2_code_83 : decode method_2_code 83 = .ok (.iload_n 0, 1) := by decide +kernel
theorem d_method_2_code_84 : decode method_2_code 84 = .ok (.bipush 9, 2) := by decide +kernel
theorem d_method_2_code_86 : decode method_2_code 86 = .ok (.if_icmp .ne 7, 3) := by decide +kernel
theorem d_method_2_code_89 : decode method_2_code 89 = .ok (.getstatic 37, 3) := by decide +kernel
theorem d_method_2_code_92 : decode method_2_code 92 = .ok (.areturn, 1) := by decide +kernel
theorem d_method_2_code_93 : decode method_2_code 93 = .ok (.iload_n 0, 1) := by decide +kernel
theorem d_method_2_code_94 : decode method_2_code 94 = .ok (.bipush 10, 2) := by decide +kernel
theorem d_method_2_code_96 : decode method_2_code 96 = .ok (.if_icmp .ne 7, 3) := by decide +kernel
theorem d_method_2_code_99 : decode method_2_code 99 = .ok (.getstatic 40, 3) := by decide +kernel
theorem d_method_2_code_102 : decode method_2_code 102 = .ok (.areturn, 1) := by decide +kernel
theorem d_method_2_code_103 : decode method_2_code 103 = .ok (.iload_n 0, 1) := by decide +kernel
theorem d_method_2_code_104 : decode method_2_code 104 = .ok (.bipush 11, 2) := by decide +kernel
theorem d_method_2_code_106 : decode method_2_code 106 = .ok (.if_icmp .ne 7, 3) := by decide +kernel
theorem d_method_2_code_109 : decode method_2_code 109 = .ok (.getstatic 43, 3) := by decide +kernel
theorem d_method_2_code_112 : decode method_2_code 112 = .ok (.areturn, 1) := by decide +kernel
theorem d_method_2_code_113 : decode method_2_code 113 = .ok (.iload_n 0, 1) := by decide +kernel
theorem d_method_2_code_114 : decode method_2_code 114 = .ok (.bipush 12, 2) := by decide +kernel
theorem d_method_2_code_116 : decode method_2_code 116 = .ok (.if_icmp .ne 7, 3) := by decide +kernel
theorem d_method_2_code_119 : decode method_2_code 119 = .ok (.getstatic 46, 3) := by decide +kernel
theorem d_method_2_code_122 : decode method_2_code 122 = .ok (.areturn, 1) := by decide +kernel
theorem d_method_2_code_123 : decode method_2_code 123 = .ok (.iload_n 0, 1) := by decide +kernel
theorem d_method_2_code_124 : decode method_2_code 124 = .ok (.bipush 13, 2) := by decide +kernel
theorem d_method_2_code_126 : decode method_2_code 126 = .ok (.if_icmp .ne 7, 3) := by decide +kernel
theorem d_method_2_code_129 : decode method_2_code 129 = .ok (.getstatic 49, 3) := by decide +kernel
theorem d_method_2_code_132 : decode method_2_code 132 = .ok (.areturn, 1) := by decide +kernel
theorem d_method_2_code_133 : decode method_2_code 133 = .ok (.iload_n 0, 1) := by decide +kernel
theorem d_method_2_code_134 : decode method_2_code 134 = .ok (.bipush 14, 2) := by decide +kernel
theorem d_method_2_code_136 : decode method_2_code 136 = .ok (.if_icmp .ne 7, 3) := by decide +kernel
theorem d_method_2_code_139 : decode method_2_code 139 = .ok (.getstatic 52, 3) := by decide +kernel
theorem d_method_2_code_142 : decode method_2_code 142 = .ok (.areturn, 1) := by decide +kernel
theorem d_method_2_code_143 : decode method_2_code 143 = .ok (.iload_n 0, 1) := by decide +kernel
theorem d_method_2_code_144 : decode method_2_code 144 = .ok (.bipush 15, 2) := by decide +kernel
theorem d_method_2_code_146 : decode method_2_code 146 = .ok (.if_icmp .ne 7, 3) := by decide +kernel
theorem d_method_2_code_149 : decode method_2_code 149 = .ok (.getstatic 55, 3) := by decide +kernel
theorem d_method_2_code_152 : decode method_2_code 152 = .ok (.areturn, 1) := by decide +kernel
theorem d_method_2_code_153 : decode method_2_code 153 = .ok (.iload_n 0, 1) := by decide +kernel
theorem d_method_2_code_154 : decode method_2_code 154 = .ok (.bipush 16, 2) := by decide +kernel
theorem d_method_2_code_156 : decode method_2_code 156 = .ok (.if_icmp .ne 7, 3) := by decide +kernel
theorem d_method_2_code_159 : decode method_2_code 159 = .ok (.getstatic 58, 3) := by decide +kernel
theorem d_method_2_code_162 : decode method_2_code 162 = .ok (.areturn, 1) := by decide +kernel
theorem d_method_2_code_163 : decode method_2_code 163 = .ok (.getstatic 61, 3) := by decide +kernel
theorem d_method_2_code_166 : decode method_2_code 166 = .ok (.areturn, 1) := by decide +kernel
theorem pn_com_example_endless_runs_endlessruns_hoa_TokenIsPinLaw : plainName "com/example/endless_runs/endlessruns/hoa/TokenIsPinLaw" = true := by first | (simp [plainName, overriddenIn]; done) | decide +kernel
theorem ef_kof (mi : MethodId) (i : Int32) : entryFrame mi #[(.int i)] 1 = mkF mi 0 #[.val (.int i)] [] := by first | (simp [entryFrame, mkF, argsToLocals, Value.category]; done) | rfl
def Q_kof (Z : State) (i : Int32) (K : Nat → Addr) (hE : Heap) (n0 : Nat) (vv : Option Value) (hh : Heap) (LL : List Loc) : Prop := (vv = some (.ref (K i.toNatClampNeg))) ∧ (Fr n0 LL) ∧ (hh = hE)
set_option maxRecDepth 65536 in
set_option maxHeartbeats 40000000 in
theorem rm_kof (la : Launch) (Z : State) (a0 : Array Value) (hw : ∀ d ∈ tables_1, d.before a0 Z = true) (ws : List Jvm.Cond) (i : Int32) (K : Nat → Addr) (hE : Heap) (n0 : Nat) (O : Old Z n0 hE) (D0_ : Sta Z Z.heap "com/example/endless_runs/endlessruns/hoa/HoaLexer$Kind" "HEADER_NAME" "Lcom/example/endless_runs/endlessruns/hoa/HoaLexer$Kind;" (.ref (K 0))) (D1_ : Sta Z Z.heap "com/example/endless_runs/endlessruns/hoa/HoaLexer$Kind" "IDENTIFIER" "Lcom/example/endless_runs/endlessruns/hoa/HoaLexer$Kind;" (.ref (K 1))) (D2_ : Sta Z Z.heap "com/example/endless_runs/endlessruns/hoa/HoaLexer$Kind" "INTEGER" "Lcom/example/endless_runs/endlessruns/hoa/HoaLexer$Kind;" (.ref (K 2))) (D3_ : Sta Z Z.heap "com/example/endless_runs/endlessruns/hoa/HoaLexer$Kind" "STRING" "Lcom/example/endless_runs/endlessruns/hoa/HoaLexer$Kind;" (.ref (K 3))) (D4_ : Sta Z Z.heap "com/example/endless_runs/endlessruns/hoa/HoaLexer$Kind" "ALIAS" "Lcom/example/endless_runs/endlessruns/hoa/HoaLexer$Kind;" (.ref (K 4))) (D5_ : Sta Z Z.heap "com/example/endless_runs/endlessruns/hoa/HoaLexer$Kind" "NOT" "Lcom/example/endless_runs/endlessruns/hoa/HoaLexer$Kind;" (.ref (K 5))) (D6_ : Sta Z Z.heap "com/example/endless_runs/endlessruns/hoa/HoaLexer$Kind" "AND" "Lcom/example/endless_runs/endlessruns/hoa/HoaLexer$Kind;" (.ref (K 6))) (D7_ : Sta Z Z.heap "com/example/endless_runs/endlessruns/hoa/HoaLexer$Kind" "OR" "Lcom/example/endless_runs/endlessruns/hoa/HoaLexer$Kind;" (.ref (K 7))) (D8_ : Sta Z Z.heap "com/example/endless_runs/endlessruns/hoa/HoaLexer$Kind" "LEFT_PAREN" "Lcom/example/endless_runs/endlessruns/hoa/HoaLexer$Kind;" (.ref (K 8))) (D9_ : Sta Z Z.heap "com/example/endless_runs/endlessruns/hoa/HoaLexer$Kind" "RIGHT_PAREN" "Lcom/example/endless_runs/endlessruns/hoa/HoaLexer$Kind;" (.ref (K 9))) (D10_ : Sta Z Z.heap "com/example/endless_runs/endlessruns/hoa/HoaLexer$Kind" "LEFT_BRACKET" "Lcom/example/endless_runs/endlessruns/hoa/HoaLexer$Kind;" (.ref (K 10))) (D11_ : Sta Z Z.heap "com/example/endless_runs/endlessruns/hoa/HoaLexer$Kind" "RIGHT_BRACKET" "Lcom/example/endless_runs/endlessruns/hoa/HoaLexer$Kind;" (.ref (K 11))) (D12_ : Sta Z Z.heap "com/example/endless_runs/endlessruns/hoa/HoaLexer$Kind" "LEFT_BRACE" "Lcom/example/endless_runs/endlessruns/hoa/HoaLexer$Kind;" (.ref (K 12))) (D13_ : Sta Z Z.heap "com/example/endless_runs/endlessruns/hoa/HoaLexer$Kind" "RIGHT_BRACE" "Lcom/example/endless_runs/endlessruns/hoa/HoaLexer$Kind;" (.ref (K 13))) (D14_ : Sta Z Z.heap "com/example/endless_runs/endlessruns/hoa/HoaLexer$Kind" "BODY" "Lcom/example/endless_runs/endlessruns/hoa/HoaLexer$Kind;" (.ref (K 14))) (D15_ : Sta Z Z.heap "com/example/endless_runs/endlessruns/hoa/HoaLexer$Kind" "END" "Lcom/example/endless_runs/endlessruns/hoa/HoaLexer$Kind;" (.ref (K 15))) (D16_ : Sta Z Z.heap "com/example/endless_runs/endlessruns/hoa/HoaLexer$Kind" "ABORT" "Lcom/example/endless_runs/endlessruns/hoa/HoaLexer$Kind;" (.ref (K 16))) (D17_ : Sta Z Z.heap "com/example/endless_runs/endlessruns/hoa/HoaLexer$Kind" "END_OF_INPUT" "Lcom/example/endless_runs/endlessruns/hoa/HoaLexer$Kind;" (.ref (K 17))) (hi0 : ¬ (i < (0 : Int32))) (h18 : i < (18 : Int32)) :
    MetFree la mn0 (head1 (Jvm.Cond.code mn0 method_2_code 1 (some (.object "com/example/endless_runs/endlessruns/hoa/HoaLexer$Kind")) :: ws) ({ frames := 0, cells := 0, slots := 0, locals := 0 } : Room)) (fun aa UU => aa = #[(.int i)] ∧ Z.Warmed39 UU.vm ∧ UU.heap = hE) (fun _ _ _ _ _ => True) (fun _ UU oo UV => ∃ vv LL, oo = .returned vv ∧ Q_kof Z i K hE n0 vv UV.heap LL ∧ FrameEnd UU oo UV LL ({ frames := 0, cells := 0, slots := 0, locals := 0 } : Room).cells ({ frames := 0, cells := 0, slots := 0, locals := 0 } : Room).slots) := by
  refine MetFree.of_bodySF (plainFor_of_name pn_com_example_endless_runs_endlessruns_hoa_TokenIsPinLaw) hisR ?_
  intro pg ev sb mi gs below me cd s₁ Bd hml0 hPt hKt
  obtain ⟨rfl, hZ, hh⟩ := hPt
  have hx := Bd.exec
  have hby := Bd.bytes
  have hml : cd.maxLocals = 1 := hml0
  have hown : sb.vm.findClass "com/example/endless_runs/endlessruns/hoa/TokenIsPinLaw" = some mi.cls := findClass_of_methodNamed Bd.named
  have hnm := (name_of_methodNamed Bd.named Bd.method).1
  have X0 : Stand pg la ev ({ frames := 0, cells := 0, slots := 0, locals := 0 } : Room) sb mi #[(.int i)] below me cd s₁ [] 0 0 := Stand.of_body Bd
  have eE : s₁.heap = hE := by rw [← hh, Bd.state]; rfl
  have N0 := Fr.nil n0
  have pre0 : ∀ tt, Steps pg.tables ev below (s₁.setTop (mkF mi 0 #[.val (.int i)] [])) tt → Steps pg.tables ev below (s₁.setTop (entryFrame mi #[(.int i)] 1)) tt := fun tt kk => castTop (ef_kof mi i) kk
  have pre102 : ∀ tt, Steps pg.tables ev below (s₁.setTop (mkF mi 1 #[.val (.int i)] [(.int i)])) tt → Steps pg.tables ev below (s₁.setTop (entryFrame mi #[(.int i)] 1)) tt := fun tt kk => pre0 _ (by
    show Steps pg.tables ev below (s₁.setTop (mkF mi 0 #[.val (.int i)] [])) _
    refine XS.iloadN X0.here hx rfl (hb hby d_method_2_code_0) rfl ?_
    exact kk)
  by_cases hc101 : i = (0 : Int32)
  · obtain ⟨T103, X103, e103, st103⟩ := getS2 X0 hx hZ hown (host := "") (Or.inl (wd5 hw)) Via.refl eE (D0_.ext O.2) (g := (mkF mi 4 #[.val (.int i)] [])) rfl (hb hby d_method_2_code_4)
    obtain ⟨fs, hr, hrun, hended, hW, hsame⟩ := X103.leave (v := some (.ref (K 0))) (fun hq => by rw [Bd.returns] at hq; cases hq)
    refine ⟨_, _, pre102 _ ?_, hrun, hended, _, _, rfl, ?_, ⟨_, rfl⟩, hW, hsame.mono (by decide) (by decide)⟩
    · show Steps pg.tables ev below (s₁.setTop (mkF mi 1 #[.val (.int i)] [(.int i)])) _
      refine XS.ifNo X0.here hx rfl (hb hby d_method_2_code_1) rfl ((if0 _ _).trans (teq hc101).2) ?_
      show Steps pg.tables ev below (s₁.setTop (mkF mi 4 #[.val (.int i)] [])) _
      refine st103 _ ?_
      show Steps pg.tables ev below (T103.setTop (mkF mi 7 #[.val (.int i)] [(.ref (K 0))])) _
      jvm_step X103.here [X103.here.top, hx, (hb hby d_method_2_code_7), X103.method', Bd.returns, Value.isRef, FieldType.isReference]
      first | (intro acts; rw [hr _ acts rfl rfl rfl]) | rw [hr _ _ rfl rfl rfl]
      exact Steps.refl _
    · show Q_kof Z i K hE n0 _ T103.heap _
      rw [e103]
      exact ⟨(by show some (Value.ref (K 0)) = some (Value.ref (K i.toNatClampNeg)); rw [hc101]; rfl), N0, rfl⟩
  · have pre105 : ∀ tt, Steps pg.tables ev below (s₁.setTop (mkF mi 10 #[.val (.int i)] [(.int (1 : Int32)), (.int i)])) tt → Steps pg.tables ev below (s₁.setTop (entryFrame mi #[(.int i)] 1)) tt := fun tt kk => pre102 _ (by
      show Steps pg.tables ev below (s₁.setTop (mkF mi 1 #[.val (.int i)] [(.int i)])) _
      refine XS.ifYes X0.here hx rfl (pc0 := 1) (pc' := 8) rfl (hb hby d_method_2_code_1) rfl ((if0 _ _).trans (feq hc101).2) (by decide) (by decide) ?_
      show Steps pg.tables ev below (s₁.setTop (mkF mi 8 #[.val (.int i)] [])) _
      refine XS.iloadN X0.here hx rfl (hb hby d_method_2_code_8) rfl ?_
      show Steps pg.tables ev below (s₁.setTop (mkF mi 9 #[.val (.int i)] [(.int i)])) _
      refine XS.iconst X0.here hx rfl (hb hby d_method_2_code_9) ?_
      exact kk)
    by_cases hc104 : i = (1 : Int32)
    · obtain ⟨T106, X106, e106, st106⟩ := getS2 X0 hx hZ hown (host := "") (Or.inl (wd92 hw)) Via.refl eE (D1_.ext O.2) (g := (mkF mi 13 #[.val (.int i)] [])) rfl (hb hby d_method_2_code_13)
      obtain ⟨fs, hr, hrun, hended, hW, hsame⟩ := X106.leave (v := some (.ref (K 1))) (fun hq => by rw [Bd.returns] at hq; cases hq)
      refine ⟨_, _, pre105 _ ?_, hrun, hended, _, _, rfl, ?_, ⟨_, rfl⟩, hW, hsame.mono (by decide) (by decide)⟩
      · show Steps pg.tables ev below (s₁.setTop (mkF mi 10 #[.val (.int i)] [(.int (1 : Int32)), (.int i)])) _
        refine XS.icmpNo X0.here hx rfl (hb hby d_method_2_code_10) rfl (teq hc104).2 ?_
        show Steps pg.tables ev below (s₁.setTop (mkF mi 13 #[.val (.int i)] [])) _
        refine st106 _ ?_
        show Steps pg.tables ev below (T106.setTop (mkF mi 16 #[.val (.int i)] [(.ref (K 1))])) _
        jvm_step X106.here [X106.here.top, hx, (hb hby d_method_2_code_16), X106.method', Bd.returns, Value.isRef, FieldType.isReference]
        first | (intro acts; rw [hr _ acts rfl rfl rfl]) | rw [hr _ _ rfl rfl rfl]
        exact Steps.refl _
      · show Q_kof Z i K hE n0 _ T106.heap _
        rw [e106]
        exact ⟨(by show some (Value.ref (K 1)) = some (Value.ref (K i.toNatClampNeg)); rw [hc104]; rfl), N0, rfl⟩
    · have pre108 : ∀ tt, Steps pg.tables ev below (s₁.setTop (mkF mi 19 #[.val (.int i)] [(.int (2 : Int32)), (.int i)])) tt → Steps pg.tables ev below (s₁.setTop (entryFrame mi #[(.int i)] 1)) tt := fun tt kk => pre105 _ (by
        show Steps pg.tables ev below (s₁.setTop (mkF mi 10 #[.val (.int i)] [(.int (1 : Int32)), (.int i)])) _
        refine XS.icmpYes X0.here hx rfl (pc0 := 10) (pc' := 17) rfl (hb hby d_method_2_code_10) rfl (feq hc104).2 (by decide) (by decide) ?_
        show Steps pg.tables ev below (s₁.setTop (mkF mi 17 #[.val (.int i)] [])) _
        refine XS.iloadN X0.here hx rfl (hb hby d_method_2_code_17) rfl ?_
        show Steps pg.tables ev below (s₁.setTop (mkF mi 18 #[.val (.int i)] [(.int i)])) _
        refine XS.iconst X0.here hx rfl (hb hby d_method_2_code_18) ?_
        exact kk)
      by_cases hc107 : i = (2 : Int32)
      · obtain ⟨T109, X109, e109, st109⟩ := getS2 X0 hx hZ hown (host := "") (Or.inl (wd100 hw)) Via.refl eE (D2_.ext O.2) (g := (mkF mi 22 #[.val (.int i)] [])) rfl (hb hby d_method_2_code_22)
        obtain ⟨fs, hr, hrun, hended, hW, hsame⟩ := X109.leave (v := some (.ref (K 2))) (fun hq => by rw [Bd.returns] at hq; cases hq)
        refine ⟨_, _, pre108 _ ?_, hrun, hended, _, _, rfl, ?_, ⟨_, rfl⟩, hW, hsame.mono (by decide) (by decide)⟩
        · show Steps pg.tables ev below (s₁.setTop (mkF mi 19 #[.val (.int i)] [(.int (2 : Int32)), (.int i)])) _
          refine XS.icmpNo X0.here hx rfl (hb hby d_method_2_code_19) rfl (teq hc107).2 ?_
          show Steps pg.tables ev below (s₁.setTop (mkF mi 22 #[.val (.int i)] [])) _
          refine st109 _ ?_
          show Steps pg.tables ev below (T109.setTop (mkF mi 25 #[.val (.int i)] [(.ref (K 2))])) _
          jvm_step X109.here [X109.here.top, hx, (hb hby d_method_2_code_25), X109.method', Bd.returns, Value.isRef, FieldType.isReference]
          first | (intro acts; rw [hr _ acts rfl rfl rfl]) | rw [hr _ _ rfl rfl rfl]
          exact Steps.refl _
        · show Q_kof Z i K hE n0 _ T109.heap _
          rw [e109]
          exact ⟨(by show some (Value.ref (K 2)) = some (Value.ref (K i.toNatClampNeg)); rw [hc107]; rfl), N0, rfl⟩
      · have pre111 : ∀ tt, Steps pg.tables ev below (s₁.setTop (mkF mi 28 #[.val (.int i)] [(.int (3 : Int32)), (.int i)])) tt → Steps pg.tables ev below (s₁.setTop (entryFrame mi #[(.int i)] 1)) tt := fun tt kk => pre108 _ (by
          show Steps pg.tables ev below (s₁.setTop (mkF mi 19 #[.val (.int i)] [(.int (2 : Int32)), (.int i)])) _
          refine XS.icmpYes X0.here hx rfl (pc0 := 19) (pc' := 26) rfl (hb hby d_method_2_code_19) rfl (feq hc107).2 (by decide) (by decide) ?_
          show Steps pg.tables ev below (s₁.setTop (mkF mi 26 #[.val (.int i)] [])) _
          refine XS.iloadN X0.here hx rfl (hb hby d_method_2_code_26) rfl ?_
          show Steps pg.tables ev below (s₁.setTop (mkF mi 27 #[.val (.int i)] [(.int i)])) _
          refine XS.iconst X0.here hx rfl (hb hby d_method_2_code_27) ?_
          exact kk)
        by_cases hc110 : i = (3 : Int32)
        · obtain ⟨T112, X112, e112, st112⟩ := getS2 X0 hx hZ hown (host := "") (Or.inl (wd66 hw)) Via.refl eE (D3_.ext O.2) (g := (mkF mi 31 #[.val (.int i)] [])) rfl (hb hby d_method_2_code_31)
          obtain ⟨fs, hr, hrun, hended, hW, hsame⟩ := X112.leave (v := some (.ref (K 3))) (fun hq => by rw [Bd.returns] at hq; cases hq)
          refine ⟨_, _, pre111 _ ?_, hrun, hended, _, _, rfl, ?_, ⟨_, rfl⟩, hW, hsame.mono (by decide) (by decide)⟩
          · show Steps pg.tables ev below (s₁.setTop (mkF mi 28 #[.val (.int i)] [(.int (3 : Int32)), (.int i)])) _
            refine XS.icmpNo X0.here hx rfl (hb hby d_method_2_code_28) rfl (teq hc110).2 ?_
            show Steps pg.tables ev below (s₁.setTop (mkF mi 31 #[.val (.int i)] [])) _
            refine st112 _ ?_
            show Steps pg.tables ev below (T112.setTop (mkF mi 34 #[.val (.int i)] [(.ref (K 3))])) _
            jvm_step X112.here [X112.here.top, hx, (hb hby d_method_2_code_34), X112.method', Bd.returns, Value.isRef, FieldType.isReference]
            first | (intro acts; rw [hr _ acts rfl rfl rfl]) | rw [hr _ _ rfl rfl rfl]
            exact Steps.refl _
          · show Q_kof Z i K hE n0 _ T112.heap _
            rw [e112]
            exact ⟨(by show some (Value.ref (K 3)) = some (Value.ref (K i.toNatClampNeg)); rw [hc110]; rfl), N0, rfl⟩
        · have pre114 : ∀ tt, Steps pg.tables ev below (s₁.setTop (mkF mi 37 #[.val (.int i)] [(.int (4 : Int32)), (.int i)])) tt → Steps pg.tables ev below (s₁.setTop (entryFrame mi #[(.int i)] 1)) tt := fun tt kk => pre111 _ (by
            show Steps pg.tables ev below (s₁.setTop (mkF mi 28 #[.val (.int i)] [(.int (3 : Int32)), (.int i)])) _
            refine XS.icmpYes X0.here hx rfl (pc0 := 28) (pc' := 35) rfl (hb hby d_method_2_code_28) rfl (feq hc110).2 (by decide) (by decide) ?_
            show Steps pg.tables ev below (s₁.setTop (mkF mi 35 #[.val (.int i)] [])) _
            refine XS.iloadN X0.here hx rfl (hb hby d_method_2_code_35) rfl ?_
            show Steps pg.tables ev below (s₁.setTop (mkF mi 36 #[.val (.int i)] [(.int i)])) _
            refine XS.iconst X0.here hx rfl (hb hby d_method_2_code_36) ?_
            exact kk)
          by_cases hc113 : i = (4 : Int32)
          · obtain ⟨T115, X115, e115, st115⟩ := getS2 X0 hx hZ hown (host := "") (Or.inl (wd70 hw)) Via.refl eE (D4_.ext O.2) (g := (mkF mi 40 #[.val (.int i)] [])) rfl (hb hby d_method_2_code_40)
            obtain ⟨fs, hr, hrun, hended, hW, hsame⟩ := X115.leave (v := some (.ref (K 4))) (fun hq => by rw [Bd.returns] at hq; cases hq)
            refine ⟨_, _, pre114 _ ?_, hrun, hended, _, _, rfl, ?_, ⟨_, rfl⟩, hW, hsame.mono (by decide) (by decide)⟩
            · show Steps pg.tables ev below (s₁.setTop (mkF mi 37 #[.val (.int i)] [(.int (4 : Int32)), (.int i)])) _
              refine XS.icmpNo X0.here hx rfl (hb hby d_method_2_code_37) rfl (teq hc113).2 ?_
              show Steps pg.tables ev below (s₁.setTop (mkF mi 40 #[.val (.int i)] [])) _
              refine st115 _ ?_
              show Steps pg.tables ev below (T115.setTop (mkF mi 43 #[.val (.int i)] [(.ref (K 4))])) _
              jvm_step X115.here [X115.here.top, hx, (hb hby d_method_2_code_43), X115.method', Bd.returns, Value.isRef, FieldType.isReference]
              first | (intro acts; rw [hr _ acts rfl rfl rfl]) | rw [hr _ _ rfl rfl rfl]
              exact Steps.refl _
            · show Q_kof Z i K hE n0 _ T115.heap _
              rw [e115]
              exact ⟨(by show some (Value.ref (K 4)) = some (Value.ref (K i.toNatClampNeg)); rw [hc113]; rfl), N0, rfl⟩
          · have pre117 : ∀ tt, Steps pg.tables ev below (s₁.setTop (mkF mi 46 #[.val (.int i)] [(.int (5 : Int32)), (.int i)])) tt → Steps pg.tables ev below (s₁.setTop (entryFrame mi #[(.int i)] 1)) tt := fun tt kk => pre114 _ (by
              show Steps pg.tables ev below (s₁.setTop (mkF mi 37 #[.val (.int i)] [(.int (4 : Int32)), (.int i)])) _
              refine XS.icmpYes X0.here hx rfl (pc0 := 37) (pc' := 44) rfl (hb hby d_method_2_code_37) rfl (feq hc113).2 (by decide) (by decide) ?_
              show Steps pg.tables ev below (s₁.setTop (mkF mi 44 #[.val (.int i)] [])) _
              refine XS.iloadN X0.here hx rfl (hb hby d_method_2_code_44) rfl ?_
              show Steps pg.tables ev below (s₁.setTop (mkF mi 45 #[.val (.int i)] [(.int i)])) _
              refine XS.iconst X0.here hx rfl (hb hby d_method_2_code_45) ?_
              exact kk)
            by_cases hc116 : i = (5 : Int32)
            · obtain ⟨T118, X118, e118, st118⟩ := getS2 X0 hx hZ hown (host := "") (Or.inl (wd104 hw)) Via.refl eE (D5_.ext O.2) (g := (mkF mi 49 #[.val (.int i)] [])) rfl (hb hby d_method_2_code_49)
              obtain ⟨fs, hr, hrun, hended, hW, hsame⟩ := X118.leave (v := some (.ref (K 5))) (fun hq => by rw [Bd.returns] at hq; cases hq)
              refine ⟨_, _, pre117 _ ?_, hrun, hended, _, _, rfl, ?_, ⟨_, rfl⟩, hW, hsame.mono (by decide) (by decide)⟩
              · show Steps pg.tables ev below (s₁.setTop (mkF mi 46 #[.val (.int i)] [(.int (5 : Int32)), (.int i)])) _
                refine XS.icmpNo X0.here hx rfl (hb hby d_method_2_code_46) rfl (teq hc116).2 ?_
                show Steps pg.tables ev below (s₁.setTop (mkF mi 49 #[.val (.int i)] [])) _
                refine st118 _ ?_
                show Steps pg.tables ev below (T118.setTop (mkF mi 52 #[.val (.int i)] [(.ref (K 5))])) _
                jvm_step X118.here [X118.here.top, hx, (hb hby d_method_2_code_52), X118.method', Bd.returns, Value.isRef, FieldType.isReference]
                first | (intro acts; rw [hr _ acts rfl rfl rfl]) | rw [hr _ _ rfl rfl rfl]
                exact Steps.refl _
              · show Q_kof Z i K hE n0 _ T118.heap _
                rw [e118]
                exact ⟨(by show some (Value.ref (K 5)) = some (Value.ref (K i.toNatClampNeg)); rw [hc116]; rfl), N0, rfl⟩
            · have pre120 : ∀ tt, Steps pg.tables ev below (s₁.setTop (mkF mi 56 #[.val (.int i)] [(.int (6 : Int32)), (.int i)])) tt → Steps pg.tables ev below (s₁.setTop (entryFrame mi #[(.int i)] 1)) tt := fun tt kk => pre117 _ (by
                show Steps pg.tables ev below (s₁.setTop (mkF mi 46 #[.val (.int i)] [(.int (5 : Int32)), (.int i)])) _
                refine XS.icmpYes X0.here hx rfl (pc0 := 46) (pc' := 53) rfl (hb hby d_method_2_code_46) rfl (feq hc116).2 (by decide) (by decide) ?_
                show Steps pg.tables ev below (s₁.setTop (mkF mi 53 #[.val (.int i)] [])) _
                refine XS.iloadN X0.here hx rfl (hb hby d_method_2_code_53) rfl ?_
                show Steps pg.tables ev below (s₁.setTop (mkF mi 54 #[.val (.int i)] [(.int i)])) _
                refine XS.bipush X0.here hx rfl (hb hby d_method_2_code_54) ?_
                exact kk)
              by_cases hc119 : i = (6 : Int32)
              · obtain ⟨T121, X121, e121, st121⟩ := getS2 X0 hx hZ hown (host := "") (Or.inl (wd96 hw)) Via.refl eE (D6_.ext O.2) (g := (mkF mi 59 #[.val (.int i)] [])) rfl (hb hby d_method_2_code_59)
                obtain ⟨fs, hr, hrun, hended, hW, hsame⟩ := X121.leave (v := some (.ref (K 6))) (fun hq => by rw [Bd.returns] at hq; cases hq)
                refine ⟨_, _, pre120 _ ?_, hrun, hended, _, _, rfl, ?_, ⟨_, rfl⟩, hW, hsame.mono (by decide) (by decide)⟩
                · show Steps pg.tables ev below (s₁.setTop (mkF mi 56 #[.val (.int i)] [(.int (6 : Int32)), (.int i)])) _
                  refine XS.icmpNo X0.here hx rfl (hb hby d_method_2_code_56) rfl (teq hc119).2 ?_
                  show Steps pg.tables ev below (s₁.setTop (mkF mi 59 #[.val (.int i)] [])) _
                  refine st121 _ ?_
                  show Steps pg.tables ev below (T121.setTop (mkF mi 62 #[.val (.int i)] [(.ref (K 6))])) _
                  jvm_step X121.here [X121.here.top, hx, (hb hby d_method_2_code_62), X121.method', Bd.returns, Value.isRef, FieldType.isReference]
                  first | (intro acts; rw [hr _ acts rfl rfl rfl]) | rw [hr _ _ rfl rfl rfl]
                  exact Steps.refl _
                · show Q_kof Z i K hE n0 _ T121.heap _
                  rw [e121]
                  exact ⟨(by show some (Value.ref (K 6)) = some (Value.ref (K i.toNatClampNeg)); rw [hc119]; rfl), N0, rfl⟩
              · have pre123 : ∀ tt, Steps pg.tables ev below (s₁.setTop (mkF mi 66 #[.val (.int i)] [(.int (7 : Int32)), (.int i)])) tt → Steps pg.tables ev below (s₁.setTop (entryFrame mi #[(.int i)] 1)) tt := fun tt kk => pre120 _ (by
                  show Steps pg.tables ev below (s₁.setTop (mkF mi 56 #[.val (.int i)] [(.int (6 : Int32)), (.int i)])) _
                  refine XS.icmpYes X0.here hx rfl (pc0 := 56) (pc' := 63) rfl (hb hby d_method_2_code_56) rfl (feq hc119).2 (by decide) (by decide) ?_
                  show Steps pg.tables ev below (s₁.setTop (mkF mi 63 #[.val (.int i)] [])) _
                  refine XS.iloadN X0.here hx rfl (hb hby d_method_2_code_63) rfl ?_
                  show Steps pg.tables ev below (s₁.setTop (mkF mi 64 #[.val (.int i)] [(.int i)])) _
                  refine XS.bipush X0.here hx rfl (hb hby d_method_2_code_64) ?_
                  exact kk)
                by_cases hc122 : i = (7 : Int32)
                · obtain ⟨T124, X124, e124, st124⟩ := getS2 X0 hx hZ hown (host := "") (Or.inl (wd84 hw)) Via.refl eE (D7_.ext O.2) (g := (mkF mi 69 #[.val (.int i)] [])) rfl (hb hby d_method_2_code_69)
                  obtain ⟨fs, hr, hrun, hended, hW, hsame⟩ := X124.leave (v := some (.ref (K 7))) (fun hq => by rw [Bd.returns] at hq; cases hq)
                  refine ⟨_, _, pre123 _ ?_, hrun, hended, _, _, rfl, ?_, ⟨_, rfl⟩, hW, hsame.mono (by decide) (by decide)⟩
                  · show Steps pg.tables ev below (s₁.setTop (mkF mi 66 #[.val (.int i)] [(.int (7 : Int32)), (.int i)])) _
                    refine XS.icmpNo X0.here hx rfl (hb hby d_method_2_code_66) rfl (teq hc122).2 ?_
                    show Steps pg.tables ev below (s₁.setTop (mkF mi 69 #[.val (.int i)] [])) _
                    refine st124 _ ?_
                    show Steps pg.tables ev below (T124.setTop (mkF mi 72 #[.val (.int i)] [(.ref (K 7))])) _
                    jvm_step X124.here [X124.here.top, hx, (hb hby d_method_2_code_72), X124.method', Bd.returns, Value.isRef, FieldType.isReference]
                    first | (intro acts; rw [hr _ acts rfl rfl rfl]) | rw [hr _ _ rfl rfl rfl]
                    exact Steps.refl _
                  · show Q_kof Z i K hE n0 _ T124.heap _
                    rw [e124]
                    exact ⟨(by show some (Value.ref (K 7)) = some (Value.ref (K i.toNatClampNeg)); rw [hc122]; rfl), N0, rfl⟩
                · have pre126 : ∀ tt, Steps pg.tables ev below (s₁.setTop (mkF mi 76 #[.val (.int i)] [(.int (8 : Int32)), (.int i)])) tt → Steps pg.tables ev below (s₁.setTop (entryFrame mi #[(.int i)] 1)) tt := fun tt kk => pre123 _ (by
                    show Steps pg.tables ev below (s₁.setTop (mkF mi 66 #[.val (.int i)] [(.int (7 : Int32)), (.int i)])) _
                    refine XS.icmpYes X0.here hx rfl (pc0 := 66) (pc' := 73) rfl (hb hby d_method_2_code_66) rfl (feq hc122).2 (by decide) (by decide) ?_
                    show Steps pg.tables ev below (s₁.setTop (mkF mi 73 #[.val (.int i)] [])) _
                    refine XS.iloadN X0.here hx rfl (hb hby d_method_2_code_73) rfl ?_
                    show Steps pg.tables ev below (s₁.setTop (mkF mi 74 #[.val (.int i)] [(.int i)])) _
                    refine XS.bipush X0.here hx rfl (hb hby d_method_2_code_74) ?_
                    exact kk)
                  by_cases hc125 : i = (8 : Int32)
                  · obtain ⟨T127, X127, e127, st127⟩ := getS2 X0 hx hZ hown (host := "") (Or.inl (wd68 hw)) Via.refl eE (D8_.ext O.2) (g := (mkF mi 79 #[.val (.int i)] [])) rfl (hb hby d_method_2_code_79)
                    obtain ⟨fs, hr, hrun, hended, hW, hsame⟩ := X127.leave (v := some (.ref (K 8))) (fun hq => by rw [Bd.returns] at hq; cases hq)
                    refine ⟨_, _, pre126 _ ?_, hrun, hended, _, _, rfl, ?_, ⟨_, rfl⟩, hW, hsame.mono (by decide) (by decide)⟩
                    · show Steps pg.tables ev below (s₁.setTop (mkF mi 76 #[.val (.int i)] [(.int (8 : Int32)), (.int i)])) _
                      refine XS.icmpNo X0.here hx rfl (hb hby d_method_2_code_76) rfl (teq hc125).2 ?_
                      show Steps pg.tables ev below (s₁.setTop (mkF mi 79 #[.val (.int i)] [])) _
                      refine st127 _ ?_
                      show Steps pg.tables ev below (T127.setTop (mkF mi 82 #[.val (.int i)] [(.ref (K 8))])) _
                      jvm_step X127.here [X127.here.top, hx, (hb hby d_method_2_code_82), X127.method', Bd.returns, Value.isRef, FieldType.isReference]
                      first | (intro acts; rw [hr _ acts rfl rfl rfl]) | rw [hr _ _ rfl rfl rfl]
                      exact Steps.refl _
                    · show Q_kof Z i K hE n0 _ T127.heap _
                      rw [e127]
                      exact ⟨(by show some (Value.ref (K 8)) = some (Value.ref (K i.toNatClampNeg)); rw [hc125]; rfl), N0, rfl⟩
                  · have pre129 : ∀ tt, Steps pg.tables ev below (s₁.setTop (mkF mi 86 #[.val (.int i)] [(.int (9 : Int32)), (.int i)])) tt → Steps pg.tables ev below (s₁.setTop (entryFrame mi #[(.int i)] 1)) tt := fun tt kk => pre126 _ (by
                      show Steps pg.tables ev below (s₁.setTop (mkF mi 76 #[.val (.int i)] [(.int (8 : Int32)), (.int i)])) _
                      refine XS.icmpYes X0.here hx rfl (pc0 := 76) (pc' := 83) rfl (hb hby d_method_2_code_76) rfl (feq hc125).2 (by decide) (by decide) ?_
                      show Steps pg.tables ev below (s₁.setTop (mkF mi 83 #[.val (.int i)] [])) _
                      refine XS.iloadN X0.here hx rfl (hb hby d_method_2_code_83) rfl ?_
                      show Steps pg.tables ev below (s₁.setTop (mkF mi 84 #[.val (.int i)] [(.int i)])) _
                      refine XS.bipush X0.here hx rfl (hb hby d_method_2_code_84) ?_
                      exact kk)
                    by_cases hc128 : i = (9 : Int32)
                    · obtain ⟨T130, X130, e130, st130⟩ := getS2 X0 hx hZ hown (host := "") (Or.inl (wd94 hw)) Via.refl eE (D9_.ext O.2) (g := (mkF mi 89 #[.val (.int i)] [])) rfl (hb hby d_method_2_code_89)
                      obtain ⟨fs, hr, hrun, hended, hW, hsame⟩ := X130.leave (v := some (.ref (K 9))) (fun hq => by rw [Bd.returns] at hq; cases hq)
                      refine ⟨_, _, pre129 _ ?_, hrun, hended, _, _, rfl, ?_, ⟨_, rfl⟩, hW, hsame.mono (by decide) (by decide)⟩
                      · show Steps pg.tables ev below (s₁.setTop (mkF mi 86 #[.val (.int i)] [(.int (9 : Int32)), (.int i)])) _
                        refine XS.icmpNo X0.here hx rfl (hb hby d_method_2_code_86) rfl (teq hc128).2 ?_
                        show Steps pg.tables ev below (s₁.setTop (mkF mi 89 #[.val (.int i)] [])) _
                        refine st130 _ ?_
                        show Steps pg.tables ev below (T130.setTop (mkF mi 92 #[.val (.int i)] [(.ref (K 9))])) _
                        jvm_step X130.here [X130.here.top, hx, (hb hby d_method_2_code_92), X130.method', Bd.returns, Value.isRef, FieldType.isReference]
                        first | (intro acts; rw [hr _ acts rfl rfl rfl]) | rw [hr _ _ rfl rfl rfl]
                        exact Steps.refl _
                      · show Q_kof Z i K hE n0 _ T130.heap _
                        rw [e130]
                        exact ⟨(by show some (Value.ref (K 9)) = some (Value.ref (K i.toNatClampNeg)); rw [hc128]; rfl), N0, rfl⟩
                    · have pre132 : ∀ tt, Steps pg.tables ev below (s₁.setTop (mkF mi 96 #[.val (.int i)] [(.int (10 : Int32)), (.int i)])) tt → Steps pg.tables ev below (s₁.setTop (entryFrame mi #[(.int i)] 1)) tt := fun tt kk => pre129 _ (by
                        show Steps pg.tables ev below (s₁.setTop (mkF mi 86 #[.val (.int i)] [(.int (9 : Int32)), (.int i)])) _
                        refine XS.icmpYes X0.here hx rfl (pc0 := 86) (pc' := 93) rfl (hb hby d_method_2_code_86) rfl (feq hc128).2 (by decide) (by decide) ?_
                        show Steps pg.tables ev below (s₁.setTop (mkF mi 93 #[.val (.int i)] [])) _
                        refine XS.iloadN X0.here hx rfl (hb hby d_method_2_code_93) rfl ?_
                        show Steps pg.tables ev below (s₁.setTop (mkF mi 94 #[.val (.int i)] [(.int i)])) _
                        refine XS.bipush X0.here hx rfl (hb hby d_method_2_code_94) ?_
                        exact kk)
                      by_cases hc131 : i = (10 : Int32)
                      · obtain ⟨T133, X133, e133, st133⟩ := getS2 X0 hx hZ hown (host := "") (Or.inl (wd90 hw)) Via.refl eE (D10_.ext O.2) (g := (mkF mi 99 #[.val (.int i)] [])) rfl (hb hby d_method_2_code_99)
                        obtain ⟨fs, hr, hrun, hended, hW, hsame⟩ := X133.leave (v := some (.ref (K 10))) (fun hq => by rw [Bd.returns] at hq; cases hq)
                        refine ⟨_, _, pre132 _ ?_, hrun, hended, _, _, rfl, ?_, ⟨_, rfl⟩, hW, hsame.mono (by decide) (by decide)⟩
                        · show Steps pg.tables ev below (s₁.setTop (mkF mi 96 #[.val (.int i)] [(.int (10 : Int32)), (.int i)])) _
                          refine XS.icmpNo X0.here hx rfl (hb hby d_method_2_code_96) rfl (teq hc131).2 ?_
                          show Steps pg.tables ev below (s₁.setTop (mkF mi 99 #[.val (.int i)] [])) _
                          refine st133 _ ?_
                          show Steps pg.tables ev below (T133.setTop (mkF mi 102 #[.val (.int i)] [(.ref (K 10))])) _
                          jvm_step X133.here [X133.here.top, hx, (hb hby d_method_2_code_102), X133.method', Bd.returns, Value.isRef, FieldType.isReference]
                          first | (intro acts; rw [hr _ acts rfl rfl rfl]) | rw [hr _ _ rfl rfl rfl]
                          exact Steps.refl _
                        · show Q_kof Z i K hE n0 _ T133.heap _
                          rw [e133]
                          exact ⟨(by show some (Value.ref (K 10)) = some (Value.ref (K i.toNatClampNeg)); rw [hc131]; rfl), N0, rfl⟩
                      · have pre135 : ∀ tt, Steps pg.tables ev below (s₁.setTop (mkF mi 106 #[.val (.int i)] [(.int (11 : Int32)), (.int i)])) tt → Steps pg.tables ev below (s₁.setTop (entryFrame mi #[(.int i)] 1)) tt := fun tt kk => pre132 _ (by
                          show Steps pg.tables ev below (s₁.setTop (mkF mi 96 #[.val (.int i)] [(.int (10 : Int32)), (.int i)])) _
                          refine XS.icmpYes X0.here hx rfl (pc0 := 96) (pc' := 103) rfl (hb hby d_method_2_code_96) rfl (feq hc131).2 (by decide) (by decide) ?_
                          show Steps pg.tables ev below (s₁.setTop (mkF mi 103 #[.val (.int i)] [])) _
                          refine XS.iloadN X0.here hx rfl (hb hby d_method_2_code_103) rfl ?_
                          show Steps pg.tables ev below (s₁.setTop (mkF mi 104 #[.val (.int i)] [(.int i)])) _
                          refine XS.bipush X0.here hx rfl (hb hby d_method_2_code_104) ?_
                          exact kk)
                        by_cases hc134 : i = (11 : Int32)
                        · obtain ⟨T136, X136, e136, st136⟩ := getS2 X0 hx hZ hown (host := "") (Or.inl (wd108 hw)) Via.refl eE (D11_.ext O.2) (g := (mkF mi 109 #[.val (.int i)] [])) rfl (hb hby d_method_2_code_109)
                          obtain ⟨fs, hr, hrun, hended, hW, hsame⟩ := X136.leave (v := some (.ref (K 11))) (fun hq => by rw [Bd.returns] at hq; cases hq)
                          refine ⟨_, _, pre135 _ ?_, hrun, hended, _, _, rfl, ?_, ⟨_, rfl⟩, hW, hsame.mono (by decide) (by decide)⟩
                          · show Steps pg.tables ev below (s₁.setTop (mkF mi 106 #[.val (.int i)] [(.int (11 : Int32)), (.int i)])) _
                            refine XS.icmpNo X0.here hx rfl (hb hby d_method_2_code_106) rfl (teq hc134).2 ?_
                            show Steps pg.tables ev below (s₁.setTop (mkF mi 109 #[.val (.int i)] [])) _
                            refine st136 _ ?_
                            show Steps pg.tables ev below (T136.setTop (mkF mi 112 #[.val (.int i)] [(.ref (K 11))])) _
                            jvm_step X136.here [X136.here.top, hx, (hb hby d_method_2_code_112), X136.method', Bd.returns, Value.isRef, FieldType.isReference]
                            first | (intro acts; rw [hr _ acts rfl rfl rfl]) | rw [hr _ _ rfl rfl rfl]
                            exact Steps.refl _
                          · show Q_kof Z i K hE n0 _ T136.heap _
                            rw [e136]
                            exact ⟨(by show some (Value.ref (K 11)) = some (Value.ref (K i.toNatClampNeg)); rw [hc134]; rfl), N0, rfl⟩
                        · have pre138 : ∀ tt, Steps pg.tables ev below (s₁.setTop (mkF mi 116 #[.val (.int i)] [(.int (12 : Int32)), (.int i)])) tt → Steps pg.tables ev below (s₁.setTop (entryFrame mi #[(.int i)] 1)) tt := fun tt kk => pre135 _ (by
                            show Steps pg.tables ev below (s₁.setTop (mkF mi 106 #[.val (.int i)] [(.int (11 : Int32)), (.int i)])) _
                            refine XS.icmpYes X0.here hx rfl (pc0 := 106) (pc' := 113) rfl (hb hby d_method_2_code_106) rfl (feq hc134).2 (by decide) (by decide) ?_
                            show Steps pg.tables ev below (s₁.setTop (mkF mi 113 #[.val (.int i)] [])) _
                            refine XS.iloadN X0.here hx rfl (hb hby d_method_2_code_113) rfl ?_
                            show Steps pg.tables ev below (s₁.setTop (mkF mi 114 #[.val (.int i)] [(.int i)])) _
                            refine XS.bipush X0.here hx rfl (hb hby d_method_2_code_114) ?_
                            exact kk)
                          by_cases hc137 : i = (12 : Int32)
                          · obtain ⟨T139, X139, e139, st139⟩ := getS2 X0 hx hZ hown (host := "") (Or.inl (wd88 hw)) Via.refl eE (D12_.ext O.2) (g := (mkF mi 119 #[.val (.int i)] [])) rfl (hb hby d_method_2_code_119)
                            obtain ⟨fs, hr, hrun, hended, hW, hsame⟩ := X139.leave (v := some (.ref (K 12))) (fun hq => by rw [Bd.returns] at hq; cases hq)
                            refine ⟨_, _, pre138 _ ?_, hrun, hended, _, _, rfl, ?_, ⟨_, rfl⟩, hW, hsame.mono (by decide) (by decide)⟩
                            · show Steps pg.tables ev below (s₁.setTop (mkF mi 116 #[.val (.int i)] [(.int (12 : Int32)), (.int i)])) _
                              refine XS.icmpNo X0.here hx rfl (hb hby d_method_2_code_116) rfl (teq hc137).2 ?_
                              show Steps pg.tables ev below (s₁.setTop (mkF mi 119 #[.val (.int i)] [])) _
                              refine st139 _ ?_
                              show Steps pg.tables ev below (T139.setTop (mkF mi 122 #[.val (.int i)] [(.ref (K 12))])) _
                              jvm_step X139.here [X139.here.top, hx, (hb hby d_method_2_code_122), X139.method', Bd.returns, Value.isRef, FieldType.isReference]
                              first | (intro acts; rw [hr _ acts rfl rfl rfl]) | rw [hr _ _ rfl rfl rfl]
                              exact Steps.refl _
                            · show Q_kof Z i K hE n0 _ T139.heap _
                              rw [e139]
                              exact ⟨(by show some (Value.ref (K 12)) = some (Value.ref (K i.toNatClampNeg)); rw [hc137]; rfl), N0, rfl⟩
                          · have pre141 : ∀ tt, Steps pg.tables ev below (s₁.setTop (mkF mi 126 #[.val (.int i)] [(.int (13 : Int32)), (.int i)])) tt → Steps pg.tables ev below (s₁.setTop (entryFrame mi #[(.int i)] 1)) tt := fun tt kk => pre138 _ (by
                              show Steps pg.tables ev below (s₁.setTop (mkF mi 116 #[.val (.int i)] [(.int (12 : Int32)), (.int i)])) _
                              refine XS.icmpYes X0.here hx rfl (pc0 := 116) (pc' := 123) rfl (hb hby d_method_2_code_116) rfl (feq hc137).2 (by decide) (by decide) ?_
                              show Steps pg.tables ev below (s₁.setTop (mkF mi 123 #[.val (.int i)] [])) _
                              refine XS.iloadN X0.here hx rfl (hb hby d_method_2_code_123) rfl ?_
                              show Steps pg.tables ev below (s₁.setTop (mkF mi 124 #[.val (.int i)] [(.int i)])) _
                              refine XS.bipush X0.here hx rfl (hb hby d_method_2_code_124) ?_
                              exact kk)
                            by_cases hc140 : i = (13 : Int32)
                            · obtain ⟨T142, X142, e142, st142⟩ := getS2 X0 hx hZ hown (host := "") (Or.inl (wd98 hw)) Via.refl eE (D13_.ext O.2) (g := (mkF mi 129 #[.val (.int i)] [])) rfl (hb hby d_method_2_code_129)
                              obtain ⟨fs, hr, hrun, hended, hW, hsame⟩ := X142.leave (v := some (.ref (K 13))) (fun hq => by rw [Bd.returns] at hq; cases hq)
                              refine ⟨_, _, pre141 _ ?_, hrun, hended, _, _, rfl, ?_, ⟨_, rfl⟩, hW, hsame.mono (by decide) (by decide)⟩
                              · show Steps pg.tables ev below (s₁.setTop (mkF mi 126 #[.val (.int i)] [(.int (13 : Int32)), (.int i)])) _
                                refine XS.icmpNo X0.here hx rfl (hb hby d_method_2_code_126) rfl (teq hc140).2 ?_
                                show Steps pg.tables ev below (s₁.setTop (mkF mi 129 #[.val (.int i)] [])) _
                                refine st142 _ ?_
                                show Steps pg.tables ev below (T142.setTop (mkF mi 132 #[.val (.int i)] [(.ref (K 13))])) _
                                jvm_step X142.here [X142.here.top, hx, (hb hby d_method_2_code_132), X142.method', Bd.returns, Value.isRef, FieldType.isReference]
                                first | (intro acts; rw [hr _ acts rfl rfl rfl]) | rw [hr _ _ rfl rfl rfl]
                                exact Steps.refl _
                              · show Q_kof Z i K hE n0 _ T142.heap _
                                rw [e142]
                                exact ⟨(by show some (Value.ref (K 13)) = some (Value.ref (K i.toNatClampNeg)); rw [hc140]; rfl), N0, rfl⟩
                            · have pre144 : ∀ tt, Steps pg.tables ev below (s₁.setTop (mkF mi 136 #[.val (.int i)] [(.int (14 : Int32)), (.int i)])) tt → Steps pg.tables ev below (s₁.setTop (entryFrame mi #[(.int i)] 1)) tt := fun tt kk => pre141 _ (by
                                show Steps pg.tables ev below (s₁.setTop (mkF mi 126 #[.val (.int i)] [(.int (13 : Int32)), (.int i)])) _
                                refine XS.icmpYes X0.here hx rfl (pc0 := 126) (pc' := 133) rfl (hb hby d_method_2_code_126) rfl (feq hc140).2 (by decide) (by decide) ?_
                                show Steps pg.tables ev below (s₁.setTop (mkF mi 133 #[.val (.int i)] [])) _
                                refine XS.iloadN X0.here hx rfl (hb hby d_method_2_code_133) rfl ?_
                                show Steps pg.tables ev below (s₁.setTop (mkF mi 134 #[.val (.int i)] [(.int i)])) _
                                refine XS.bipush X0.here hx rfl (hb hby d_method_2_code_134) ?_
                                exact kk)
                              by_cases hc143 : i = (14 : Int32)
                              · obtain ⟨T145, X145, e145, st145⟩ := getS2 X0 hx hZ hown (host := "") (Or.inl (wd102 hw)) Via.refl eE (D14_.ext O.2) (g := (mkF mi 139 #[.val (.int i)] [])) rfl (hb hby d_method_2_code_139)
                                obtain ⟨fs, hr, hrun, hended, hW, hsame⟩ := X145.leave (v := some (.ref (K 14))) (fun hq => by rw [Bd.returns] at hq; cases hq)
                                refine ⟨_, _, pre144 _ ?_, hrun, hended, _, _, rfl, ?_, ⟨_, rfl⟩, hW, hsame.mono (by decide) (by decide)⟩
                                · show Steps pg.tables ev below (s₁.setTop (mkF mi 136 #[.val (.int i)] [(.int (14 : Int32)), (.int i)])) _
                                  refine XS.icmpNo X0.here hx rfl (hb hby d_method_2_code_136) rfl (teq hc143).2 ?_
                                  show Steps pg.tables ev below (s₁.setTop (mkF mi 139 #[.val (.int i)] [])) _
                                  refine st145 _ ?_
                                  show Steps pg.tables ev below (T145.setTop (mkF mi 142 #[.val (.int i)] [(.ref (K 14))])) _
                                  jvm_step X145.here [X145.here.top, hx, (hb hby d_method_2_code_142), X145.method', Bd.returns, Value.isRef, FieldType.isReference]
                                  first | (intro acts; rw [hr _ acts rfl rfl rfl]) | rw [hr _ _ rfl rfl rfl]
                                  exact Steps.refl _
                                · show Q_kof Z i K hE n0 _ T145.heap _
                                  rw [e145]
                                  exact ⟨(by show some (Value.ref (K 14)) = some (Value.ref (K i.toNatClampNeg)); rw [hc143]; rfl), N0, rfl⟩
                              · have pre147 : ∀ tt, Steps pg.tables ev below (s₁.setTop (mkF mi 146 #[.val (.int i)] [(.int (15 : Int32)), (.int i)])) tt → Steps pg.tables ev below (s₁.setTop (entryFrame mi #[(.int i)] 1)) tt := fun tt kk => pre144 _ (by
                                  show Steps pg.tables ev below (s₁.setTop (mkF mi 136 #[.val (.int i)] [(.int (14 : Int32)), (.int i)])) _
                                  refine XS.icmpYes X0.here hx rfl (pc0 := 136) (pc' := 143) rfl (hb hby d_method_2_code_136) rfl (feq hc143).2 (by decide) (by decide) ?_
                                  show Steps pg.tables ev below (s₁.setTop (mkF mi 143 #[.val (.int i)] [])) _
                                  refine XS.iloadN X0.here hx rfl (hb hby d_method_2_code_143) rfl ?_
                                  show Steps pg.tables ev below (s₁.setTop (mkF mi 144 #[.val (.int i)] [(.int i)])) _
                                  refine XS.bipush X0.here hx rfl (hb hby d_method_2_code_144) ?_
                                  exact kk)
                                by_cases hc146 : i = (15 : Int32)
                                · obtain ⟨T148, X148, e148, st148⟩ := getS2 X0 hx hZ hown (host := "") (Or.inl (wd82 hw)) Via.refl eE (D15_.ext O.2) (g := (mkF mi 149 #[.val (.int i)] [])) rfl (hb hby d_method_2_code_149)
                                  obtain ⟨fs, hr, hrun, hended, hW, hsame⟩ := X148.leave (v := some (.ref (K 15))) (fun hq => by rw [Bd.returns] at hq; cases hq)
                                  refine ⟨_, _, pre147 _ ?_, hrun, hended, _, _, rfl, ?_, ⟨_, rfl⟩, hW, hsame.mono (by decide) (by decide)⟩
                                  · show Steps pg.tables ev below (s₁.setTop (mkF mi 146 #[.val (.int i)] [(.int (15 : Int32)), (.int i)])) _
                                    refine XS.icmpNo X0.here hx rfl (hb hby d_method_2_code_146) rfl (teq hc146).2 ?_
                                    show Steps pg.tables ev below (s₁.setTop (mkF mi 149 #[.val (.int i)] [])) _
                                    refine st148 _ ?_
                                    show Steps pg.tables ev below (T148.setTop (mkF mi 152 #[.val (.int i)] [(.ref (K 15))])) _
                                    jvm_step X148.here [X148.here.top, hx, (hb hby d_method_2_code_152), X148.method', Bd.returns, Value.isRef, FieldType.isReference]
                                    first | (intro acts; rw [hr _ acts rfl rfl rfl]) | rw [hr _ _ rfl rfl rfl]
                                    exact Steps.refl _
                                  · show Q_kof Z i K hE n0 _ T148.heap _
                                    rw [e148]
                                    exact ⟨(by show some (Value.ref (K 15)) = some (Value.ref (K i.toNatClampNeg)); rw [hc146]; rfl), N0, rfl⟩
                                · have pre150 : ∀ tt, Steps pg.tables ev below (s₁.setTop (mkF mi 156 #[.val (.int i)] [(.int (16 : Int32)), (.int i)])) tt → Steps pg.tables ev below (s₁.setTop (entryFrame mi #[(.int i)] 1)) tt := fun tt kk => pre147 _ (by
                                    show Steps pg.tables ev below (s₁.setTop (mkF mi 146 #[.val (.int i)] [(.int (15 : Int32)), (.int i)])) _
                                    refine XS.icmpYes X0.here hx rfl (pc0 := 146) (pc' := 153) rfl (hb hby d_method_2_code_146) rfl (feq hc146).2 (by decide) (by decide) ?_
                                    show Steps pg.tables ev below (s₁.setTop (mkF mi 153 #[.val (.int i)] [])) _
                                    refine XS.iloadN X0.here hx rfl (hb hby d_method_2_code_153) rfl ?_
                                    show Steps pg.tables ev below (s₁.setTop (mkF mi 154 #[.val (.int i)] [(.int i)])) _
                                    refine XS.bipush X0.here hx rfl (hb hby d_method_2_code_154) ?_
                                    exact kk)
                                  by_cases hc149 : i = (16 : Int32)
                                  · obtain ⟨T151, X151, e151, st151⟩ := getS2 X0 hx hZ hown (host := "") (Or.inl (wd86 hw)) Via.refl eE (D16_.ext O.2) (g := (mkF mi 159 #[.val (.int i)] [])) rfl (hb hby d_method_2_code_159)
                                    obtain ⟨fs, hr, hrun, hended, hW, hsame⟩ := X151.leave (v := some (.ref (K 16))) (fun hq => by rw [Bd.returns] at hq; cases hq)
                                    refine ⟨_, _, pre150 _ ?_, hrun, hended, _, _, rfl, ?_, ⟨_, rfl⟩, hW, hsame.mono (by decide) (by decide)⟩
                                    · show Steps pg.tables ev below (s₁.setTop (mkF mi 156 #[.val (.int i)] [(.int (16 : Int32)), (.int i)])) _
                                      refine XS.icmpNo X0.here hx rfl (hb hby d_method_2_code_156) rfl (teq hc149).2 ?_
                                      show Steps pg.tables ev below (s₁.setTop (mkF mi 159 #[.val (.int i)] [])) _
                                      refine st151 _ ?_
                                      show Steps pg.tables ev below (T151.setTop (mkF mi 162 #[.val (.int i)] [(.ref (K 16))])) _
                                      jvm_step X151.here [X151.here.top, hx, (hb hby d_method_2_code_162), X151.method', Bd.returns, Value.isRef, FieldType.isReference]
                                      first | (intro acts; rw [hr _ acts rfl rfl rfl]) | rw [hr _ _ rfl rfl rfl]
                                      exact Steps.refl _
                                    · show Q_kof Z i K hE n0 _ T151.heap _
                                      rw [e151]
                                      exact ⟨(by show some (Value.ref (K 16)) = some (Value.ref (K i.toNatClampNeg)); rw [hc149]; rfl), N0, rfl⟩
                                  · obtain ⟨T152, X152, e152, st152⟩ := getS2 X0 hx hZ hown (host := "") (Or.inl (wd106 hw)) Via.refl eE (D17_.ext O.2) (g := (mkF mi 163 #[.val (.int i)] [])) rfl (hb hby d_method_2_code_163)
                                    obtain ⟨fs, hr, hrun, hended, hW, hsame⟩ := X152.leave (v := some (.ref (K 17))) (fun hq => by rw [Bd.returns] at hq; cases hq)
                                    refine ⟨_, _, pre150 _ ?_, hrun, hended, _, _, rfl, ?_, ⟨_, rfl⟩, hW, hsame.mono (by decide) (by decide)⟩
                                    · show Steps pg.tables ev below (s₁.setTop (mkF mi 156 #[.val (.int i)] [(.int (16 : Int32)), (.int i)])) _
                                      refine XS.icmpYes X0.here hx rfl (pc0 := 156) (pc' := 163) rfl (hb hby d_method_2_code_156) rfl (feq hc149).2 (by decide) (by decide) ?_
                                      show Steps pg.tables ev below (s₁.setTop (mkF mi 163 #[.val (.int i)] [])) _
                                      refine st152 _ ?_
                                      show Steps pg.tables ev below (T152.setTop (mkF mi 166 #[.val (.int i)] [(.ref (K 17))])) _
                                      jvm_step X152.here [X152.here.top, hx, (hb hby d_method_2_code_166), X152.method', Bd.returns, Value.isRef, FieldType.isReference]
                                      first | (intro acts; rw [hr _ acts rfl rfl rfl]) | rw [hr _ _ rfl rfl rfl]
                                      exact Steps.refl _
                                    · show Q_kof Z i K hE n0 _ T152.heap _
                                      rw [e152]
                                      exact ⟨(by show some (Value.ref (K 17)) = some (Value.ref (K i.toNatClampNeg)); rw [own_17 hi0 h18 hc101 hc104 hc107 hc110 hc113 hc116 hc119 hc122 hc125 hc128 hc131 hc134 hc137 hc140 hc143 hc146 hc149]), N0, rfl⟩
theorem d_jdk_52_method_15_code_0 : decode jdk_52_method_15_code 0 = .ok (.iload_n 1, 1) := by decide +kernel
theorem d_jdk_52_method_15_code_1 : decode jdk_52_method_15_code 1 = .ok (.aload_n 0, 1) := by decide +kernel
theorem d_jdk_52_method_15_code_2 : decode jdk_52_method_15_code 2 = .ok (.arraylength, 1) := by decide +kernel
theorem d_jdk_52_method_15_code_3 : decode jdk_52_method_15_code 3 = .ok (.isub, 1) := by decide +kernel
theorem d_jdk_52_method_15_code_4 : decode jdk_52_method_15_code 4 = .ok (.bipush 31, 2) := by decide +kernel
theorem d_jdk_52_method_15_code_6 : decode jdk_52_method_15_code 6 = .ok (.iushr, 1) := by decide +kernel
theorem d_jdk_52_method_15_code_7 : decode jdk_52_method_15_code 7 = .ok (.i2b, 1) := by decide +kernel
theorem d_jdk_52_method_15_code_8 : decode jdk_52_method_15_code 8 = .ok (.ireturn, 1) := by decide +kernel
theorem pn_java_lang_StringUTF16 : plainName "java/lang/StringUTF16" = true := by first | (simp [plainName, overriddenIn]; done) | decide +kernel
theorem ef_cfal (mi : MethodId) (t : Addr) (j : Int32) : entryFrame mi #[(.ref t), (.int j)] 2 = mkF mi 0 #[.val (.ref t), .val (.int j)] [] := by first | (simp [entryFrame, mkF, argsToLocals, Value.category]; done) | rfl
def Q_cfal (Z : State) (t : Addr) (j : Int32) (kt : ClassId) (vs : List Value) (hE : Heap) (n0 : Nat) (vv : Option Value) (hh : Heap) (LL : List Loc) : Prop := (vv = some (.int (0 : Int32))) ∧ (Fr n0 LL) ∧ (hh = hE)
set_option maxRecDepth 65536 in
set_option maxHeartbeats 40000000 in
theorem rm_cfal (la : Launch) (Z : State) (a0 : Array Value) (hw : ∀ d ∈ tables_1, d.before a0 Z = true) (ws : List Jvm.Cond) (t : Addr) (j : Int32) (kt : ClassId) (vs : List Value) (hE : Heap) (n0 : Nat) (O : Old Z n0 hE) (P0_ : Arv Z hE t kt .byte j vs (.int (0 : Int32))) :
    MetFree la mn1 (head1 (Jvm.Cond.code mn1 jdk_52_method_15_code 2 (some .byte) :: ws) ({ frames := 0, cells := 0, slots := 0, locals := 0 } : Room)) (fun aa UU => aa = #[(.ref t), (.int j)] ∧ Z.Warmed39 UU.vm ∧ UU.heap = hE) (fun _ _ _ _ _ => True) (fun _ UU oo UV => ∃ vv LL, oo = .returned vv ∧ Q_cfal Z t j kt vs hE n0 vv UV.heap LL ∧ FrameEnd UU oo UV LL ({ frames := 0, cells := 0, slots := 0, locals := 0 } : Room).cells ({ frames := 0, cells := 0, slots := 0, locals := 0 } : Room).slots) := by
  refine MetFree.of_bodySF (plainFor_of_name pn_java_lang_StringUTF16) hisR ?_
  intro pg ev sb mi gs below me cd s₁ Bd hml0 hPt hKt
  obtain ⟨rfl, hZ, hh⟩ := hPt
  have hx := Bd.exec
  have hby := Bd.bytes
  have hml : cd.maxLocals = 2 := hml0
  have hown : sb.vm.findClass "java/lang/StringUTF16" = some mi.cls := findClass_of_methodNamed Bd.named
  have hnm := (name_of_methodNamed Bd.named Bd.method).1
  have X0 : Stand pg la ev ({ frames := 0, cells := 0, slots := 0, locals := 0 } : Room) sb mi #[(.ref t), (.int j)] below me cd s₁ [] 0 0 := Stand.of_body Bd
  have eE : s₁.heap = hE := by rw [← hh, Bd.state]; rfl
  have N0 := Fr.nil n0
  have pre0 : ∀ tt, Steps pg.tables ev below (s₁.setTop (mkF mi 0 #[.val (.ref t), .val (.int j)] [])) tt → Steps pg.tables ev below (s₁.setTop (entryFrame mi #[(.ref t), (.int j)] 2)) tt := fun tt kk => castTop (ef_cfal mi t j) kk
  obtain ⟨cl101, Ar101, -, Sz101, Nn101, -, -⟩ := id P0_
  obtain ⟨fs, hr, hrun, hended, hW, hsame⟩ := X0.leave (v := some (.int (nar .byte ((((j - j).toUInt32 >>> ((31 : Int32) &&& 31).toUInt32).toInt32).toInt8.toInt32)))) (fun hq => by rw [Bd.returns] at hq; cases hq)
  refine ⟨_, _, pre0 _ ?_, hrun, hended, _, _, rfl, ?_, ⟨_, rfl⟩, hW, hsame.mono (by decide) (by decide)⟩
  · show Steps pg.tables ev below (s₁.setTop (mkF mi 0 #[.val (.ref t), .val (.int j)] [])) _
    refine XS.iloadN X0.here hx rfl (hb hby d_jdk_52_method_15_code_0) rfl ?_
    show Steps pg.tables ev below (s₁.setTop (mkF mi 1 #[.val (.ref t), .val (.int j)] [(.int j)])) _
    refine XS.aloadN X0.here hx rfl (hb hby d_jdk_52_method_15_code_1) rfl rfl ?_
    show Steps pg.tables ev below (s₁.setTop (mkF mi 2 #[.val (.ref t), .val (.int j)] [(.ref t), (.int j)])) _
    refine X0.arraylength hx (cell := cl101) (by rw [eE]; exact Ar101.1) (State.isArrayOf_alike hZ.alike Ar101.2.1) (g := (mkF mi 2 #[.val (.ref t), .val (.int j)] [(.ref t), (.int j)])) rfl (rest := [(.int j)]) rfl (hb hby d_jdk_52_method_15_code_2) _ ?_
    rw [len_of Sz101 Nn101]
    show Steps pg.tables ev below (s₁.setTop (mkF mi 3 #[.val (.ref t), .val (.int j)] [(.int j), (.int j)])) _
    refine XS.isub X0.here hx rfl (hb hby d_jdk_52_method_15_code_3) rfl ?_
    show Steps pg.tables ev below (s₁.setTop (mkF mi 4 #[.val (.ref t), .val (.int j)] [(.int (j - j))])) _
    refine XS.bipush X0.here hx rfl (hb hby d_jdk_52_method_15_code_4) ?_
    show Steps pg.tables ev below (s₁.setTop (mkF mi 6 #[.val (.ref t), .val (.int j)] [(.int (31 : Int32)), (.int (j - j))])) _
    refine XS.iushr X0.here hx rfl (hb hby d_jdk_52_method_15_code_6) rfl ?_
    show Steps pg.tables ev below (s₁.setTop (mkF mi 7 #[.val (.ref t), .val (.int j)] [(.int (((j - j).toUInt32 >>> ((31 : Int32) &&& 31).toUInt32).toInt32))])) _
    refine XS.i2b X0.here hx rfl (hb hby d_jdk_52_method_15_code_7) rfl ?_
    show Steps pg.tables ev below (s₁.setTop (mkF mi 8 #[.val (.ref t), .val (.int j)] [(.int ((((j - j).toUInt32 >>> ((31 : Int32) &&& 31).toUInt32).toInt32).toInt8.toInt32))])) _
    exact retN X0 hx (t := .byte) Bd.returns (by simp) (hb hby d_jdk_52_method_15_code_8) hr
  · show Q_cfal Z t j kt vs hE n0 _ s₁.heap _
    rw [eE]
    exact ⟨(congrArg (fun z => some (Value.int z)) (own_cfal j)), N0, rfl⟩
theorem d_jdk_52_method_21_code_0 : decode jdk_52_method_21_code 0 = .ok (.iconst 0, 1) := by decide +kernel
theorem d_jdk_52_method_21_code_1 : decode jdk_52_method_21_code 1 = .ok (.istore 5, 2) := by decide +kernel
theorem d_jdk_52_method_21_code_3 : decode jdk_52_method_21_code 3 = .ok (.iload 5, 2) := by decide +kernel
theorem d_jdk_52_method_21_code_5 : decode jdk_52_method_21_code 5 = .ok (.iload 4, 2) := by decide +kernel
theorem d_jdk_52_method_21_code_7 : decode jdk_52_method_21_code 7 = .ok (.if_icmp .ge 37, 3) := by decide +kernel
theorem d_jdk_52_method_21_code_10 : decode jdk_52_method_21_code 10 = .ok (.aload_n 0, 1) := by decide +kernel
theorem d_jdk_52_method_21_code_11 : decode jdk_52_method_21_code 11 = .ok (.iload_n 1, 1) := by decide +kernel
theorem d_jdk_52_method_21_code_12 : decode jdk_52_method_21_code 12 = .ok (.caload, 1) := by decide +kernel
theorem d_jdk_52_method_21_code_13 : decode jdk_52_method_21_code 13 = .ok (.istore 6, 2) := by decide +kernel
theorem d_jdk_52_method_21_code_15 : decode jdk_52_method_21_code 15 = .ok (.iload 6, 2) := by decide +kernel
theorem d_jdk_52_method_21_code_17 : decode jdk_52_method_21_code 17 = .ok (.sipush 255, 3) := by decide +kernel
theorem d_jdk_52_method_21_code_20 : decode jdk_52_method_21_code 20 = .ok (.if_icmp .le 6, 3) := by decide +kernel
theorem d_jdk_52_method_21_code_26 : decode jdk_52_method_21_code 26 = .ok (.aload_n 2, 1) := by decide +kernel
theorem d_jdk_52_method_21_code_27 : decode jdk_52_method_21_code 27 = .ok (.iload_n 3, 1) := by decide +kernel
theorem d_jdk_52_method_21_code_28 : decode jdk_52_method_21_code 28 = .ok (.iload 6, 2) := by decide +kernel
theorem d_jdk_52_method_21_code_30 : decode jdk_52_method_21_code 30 = .ok (.i2b, 1) := by decide +kernel
theorem d_jdk_52_method_21_code_31 : decode jdk_52_method_21_code 31 = .ok (.bastore, 1) := by decide +kernel
theorem d_jdk_52_method_21_code_32 : decode jdk_52_method_21_code 32 = .ok (.iinc 1 1, 3) := by decide +kernel
theorem d_jdk_52_method_21_code_35 : decode jdk_52_method_21_code 35 = .ok (.iinc 3 1, 3) := by decide +kernel
theorem d_jdk_52_method_21_code_38 : decode jdk_52_method_21_code 38 = .ok (.iinc 5 1, 3) := by decide +kernel
theorem d_jdk_52_method_21_code_41 : decode jdk_52_method_21_code 41 = .ok (.goto (-38), 3) := by decide +kernel
theorem d_jdk_52_method_21_code_44 : decode jdk_52_method_21_code 44 = .ok (.iload 4, 2) := by decide +kernel
theorem d_jdk_52_method_21_code_46 : decode jdk_52_method_21_code 46 = .ok (.ireturn, 1) := by decide +kernel
theorem ef_cpd1 (mi : MethodId) (v : Addr) (t : Addr) : entryFrame mi #[(.ref v), (.int (0 : Int32)), (.ref t), (.int (0 : Int32)), (.int (1 : Int32))] 7 = mkF mi 0 #[.val (.ref v), .val (.int (0 : Int32)), .val (.ref t), .val (.int (0 : Int32)), .val (.int (1 : Int32)), .unset, .unset] [] := by first | (simp [entryFrame, mkF, argsToLocals, Value.category]; done) | rfl
def Q_cpd1 (Z : State) (v : Addr) (t : Addr) (kv : ClassId) (kt : ClassId) (c0 : Int32) (hE : Heap) (n0 : Nat) (vv : Option Value) (hh : Heap) (LL : List Loc) : Prop := (vv = some (.int (1 : Int32))) ∧ (Fr n0 LL) ∧ (Keep hE hh [t]) ∧ (Arv Z hh t kt .byte (1 : Int32) [(.int c0.toInt8.toInt32)] (.int (0 : Int32)))
set_option maxRecDepth 65536 in
set_option maxHeartbeats 40000000 in
theorem rm_cpd1 (la : Launch) (Z : State) (a0 : Array Value) (hw : ∀ d ∈ tables_1, d.before a0 Z = true) (ws : List Jvm.Cond) (v : Addr) (t : Addr) (kv : ClassId) (kt : ClassId) (c0 : Int32) (hE : Heap) (n0 : Nat) (O : Old Z n0 hE) (P0_ : Arv Z hE v kv .char (1 : Int32) [(.int c0)] (.int (0 : Int32))) (P1_ : Arv Z hE t kt .byte (1 : Int32) [(.int (0 : Int32))] (.int (0 : Int32))) (g_t : n0 ≤ t) (ne_v_t : v ≠ t) (hb0 : ¬ ((255 : Int32) < c0)) :
    MetFree la mn2 (head1 (Jvm.Cond.code mn2 jdk_52_method_21_code 7 (some .int) :: ws) ({ frames := 0, cells := 0, slots := 0, locals := 0 } : Room)) (fun aa UU => aa = #[(.ref v), (.int (0 : Int32)), (.ref t), (.int (0 : Int32)), (.int (1 : Int32))] ∧ Z.Warmed39 UU.vm ∧ UU.heap = hE) (fun _ _ _ _ _ => True) (fun _ UU oo UV => ∃ vv LL, oo = .returned vv ∧ Q_cpd1 Z v t kv kt c0 hE n0 vv UV.heap LL ∧ FrameEnd UU oo UV LL ({ frames := 0, cells := 0, slots := 0, locals := 0 } : Room).cells ({ frames := 0, cells := 0, slots := 0, locals := 0 } : Room).slots) := by
  refine MetFree.of_bodySF (plainFor_of_name pn_java_lang_StringUTF16) hisR ?_
  intro pg ev sb mi gs below me cd s₁ Bd hml0 hPt hKt
  obtain ⟨rfl, hZ, hh⟩ := hPt
  have hx := Bd.exec
  have hby := Bd.bytes
  have hml : cd.maxLocals = 7 := hml0
  have hown : sb.vm.findClass "java/lang/StringUTF16" = some mi.cls := findClass_of_methodNamed Bd.named
  have hnm := (name_of_methodNamed Bd.named Bd.method).1
  have X0 : Stand pg la ev ({ frames := 0, cells := 0, slots := 0, locals := 0 } : Room) sb mi #[(.ref v), (.int (0 : Int32)), (.ref t), (.int (0 : Int32)), (.int (1 : Int32))] below me cd s₁ [] 0 0 := Stand.of_body Bd
  have eE : s₁.heap = hE := by rw [← hh, Bd.state]; rfl
  have N0 := Fr.nil n0
  have pre0 : ∀ tt, Steps pg.tables ev below (s₁.setTop (mkF mi 0 #[.val (.ref v), .val (.int (0 : Int32)), .val (.ref t), .val (.int (0 : Int32)), .val (.int (1 : Int32)), .unset, .unset] [])) tt → Steps pg.tables ev below (s₁.setTop (entryFrame mi #[(.ref v), (.int (0 : Int32)), (.ref t), (.int (0 : Int32)), (.int (1 : Int32))] 7)) tt := fun tt kk => castTop (ef_cpd1 mi v t) kk
  obtain ⟨cl101, Ar101, -, Sz101, Nn101, Hh101, -⟩ := id P0_
  have hin101 : ¬ ((0 : Int32) < 0 ∨ cl101.slots.size ≤ ((0 : Int32)).toNatClampNeg) := inb_of Sz101 ⟨by decide, by decide⟩
  have hat101 : cl101.slots[((0 : Int32)).toNatClampNeg]? = some (.int c0) := Hh101.at hin101 rfl
  obtain ⟨cl102, Ar102, qq102, Sz102, Nn102, Hh102, Gg102⟩ := id P1_
  have hin102 : ¬ ((0 : Int32) < 0 ∨ cl102.slots.size ≤ ((0 : Int32)).toNatClampNeg) := inb_of Sz102 ⟨by decide, by decide⟩
  obtain ⟨T102, h102, X102, e102, W102, st102⟩ := stB X0 hx hZ eE Ar102 (j := (0 : Int32)) hin102 (g := (mkF mi 31 #[.val (.ref v), .val (.int (0 : Int32)), .val (.ref t), .val (.int (0 : Int32)), .val (.int (1 : Int32)), .val (.int (0 : Int32)), .val (.int c0)] [(.int (c0.toInt8.toInt32)), (.int (0 : Int32)), (.ref t)])) rfl rfl (hb hby d_jdk_52_method_21_code_31)
  have N102 := Fr.snoc X102 N0 g_t
  have f103 : Arv Z h102 t kt .byte (1 : Int32) [(.int ((c0.toInt8.toInt32)).toInt8.toInt32)] (.int (0 : Int32)) := Arv.set Ar102 qq102 Sz102 Nn102 Hh102 Gg102 (fits_nar_byte _) W102 0 rfl (Nat.le_of_ble_eq_true rfl)
  have f104 : Arv Z h102 t kt .byte (1 : Int32) [(.int c0.toInt8.toInt32)] (.int (0 : Int32)) := by simpa only [own_i8] using f103
  obtain ⟨fs, hr, hrun, hended, hW, hsame⟩ := X102.leave (v := some (.int (1 : Int32))) (fun hq => by rw [Bd.returns] at hq; cases hq)
  refine ⟨_, _, pre0 _ ?_, hrun, hended, _, _, rfl, ?_, ⟨_, rfl⟩, hW, hsame.mono (by decide) (by decide)⟩
  · show Steps pg.tables ev below (s₁.setTop (mkF mi 0 #[.val (.ref v), .val (.int (0 : Int32)), .val (.ref t), .val (.int (0 : Int32)), .val (.int (1 : Int32)), .unset, .unset] [])) _
    refine XS.iconst X0.here hx rfl (hb hby d_jdk_52_method_21_code_0) ?_
    show Steps pg.tables ev below (s₁.setTop (mkF mi 1 #[.val (.ref v), .val (.int (0 : Int32)), .val (.ref t), .val (.int (0 : Int32)), .val (.int (1 : Int32)), .unset, .unset] [(.int (0 : Int32))])) _
    refine XS.istore X0.here hx rfl (hb hby d_jdk_52_method_21_code_1) rfl (l' := #[.val (.ref v), .val (.int (0 : Int32)), .val (.ref t), .val (.int (0 : Int32)), .val (.int (1 : Int32)), .val (.int (0 : Int32)), .unset]) rfl ?_
    show Steps pg.tables ev below (s₁.setTop (mkF mi 3 #[.val (.ref v), .val (.int (0 : Int32)), .val (.ref t), .val (.int (0 : Int32)), .val (.int (1 : Int32)), .val (.int (0 : Int32)), .unset] [])) _
    refine XS.iload X0.here hx rfl (hb hby d_jdk_52_method_21_code_3) rfl ?_
    show Steps pg.tables ev below (s₁.setTop (mkF mi 5 #[.val (.ref v), .val (.int (0 : Int32)), .val (.ref t), .val (.int (0 : Int32)), .val (.int (1 : Int32)), .val (.int (0 : Int32)), .unset] [(.int (0 : Int32))])) _
    refine XS.iload X0.here hx rfl (hb hby d_jdk_52_method_21_code_5) rfl ?_
    show Steps pg.tables ev below (s₁.setTop (mkF mi 7 #[.val (.ref v), .val (.int (0 : Int32)), .val (.ref t), .val (.int (0 : Int32)), .val (.int (1 : Int32)), .val (.int (0 : Int32)), .unset] [(.int (1 : Int32)), (.int (0 : Int32))])) _
    refine XS.icmpNo X0.here hx rfl (hb hby d_jdk_52_method_21_code_7) rfl (tlt (by decide : (0 : Int32) < (1 : Int32))).2.1 ?_
    show Steps pg.tables ev below (s₁.setTop (mkF mi 10 #[.val (.ref v), .val (.int (0 : Int32)), .val (.ref t), .val (.int (0 : Int32)), .val (.int (1 : Int32)), .val (.int (0 : Int32)), .unset] [])) _
    refine XS.aloadN X0.here hx rfl (hb hby d_jdk_52_method_21_code_10) rfl rfl ?_
    show Steps pg.tables ev below (s₁.setTop (mkF mi 11 #[.val (.ref v), .val (.int (0 : Int32)), .val (.ref t), .val (.int (0 : Int32)), .val (.int (1 : Int32)), .val (.int (0 : Int32)), .unset] [(.ref v)])) _
    refine XS.iloadN X0.here hx rfl (hb hby d_jdk_52_method_21_code_11) rfl ?_
    show Steps pg.tables ev below (s₁.setTop (mkF mi 12 #[.val (.ref v), .val (.int (0 : Int32)), .val (.ref t), .val (.int (0 : Int32)), .val (.int (1 : Int32)), .val (.int (0 : Int32)), .unset] [(.int (0 : Int32)), (.ref v)])) _
    refine X0.caload hx (j := (0 : Int32)) (v := (.int c0)) (by rw [eE]; exact Ar101.1) (State.isArrayOf_alike hZ.alike Ar101.2.1) Ar101.2.2 hin101 hat101 (g := (mkF mi 12 #[.val (.ref v), .val (.int (0 : Int32)), .val (.ref t), .val (.int (0 : Int32)), .val (.int (1 : Int32)), .val (.int (0 : Int32)), .unset] [(.int (0 : Int32)), (.ref v)])) rfl rfl (hb hby d_jdk_52_method_21_code_12) _ ?_
    show Steps pg.tables ev below (s₁.setTop (mkF mi 13 #[.val (.ref v), .val (.int (0 : Int32)), .val (.ref t), .val (.int (0 : Int32)), .val (.int (1 : Int32)), .val (.int (0 : Int32)), .unset] [(.int c0)])) _
    refine XS.istore X0.here hx rfl (hb hby d_jdk_52_method_21_code_13) rfl (l' := #[.val (.ref v), .val (.int (0 : Int32)), .val (.ref t), .val (.int (0 : Int32)), .val (.int (1 : Int32)), .val (.int (0 : Int32)), .val (.int c0)]) rfl ?_
    show Steps pg.tables ev below (s₁.setTop (mkF mi 15 #[.val (.ref v), .val (.int (0 : Int32)), .val (.ref t), .val (.int (0 : Int32)), .val (.int (1 : Int32)), .val (.int (0 : Int32)), .val (.int c0)] [])) _
    refine XS.iload X0.here hx rfl (hb hby d_jdk_52_method_21_code_15) rfl ?_
    show Steps pg.tables ev below (s₁.setTop (mkF mi 17 #[.val (.ref v), .val (.int (0 : Int32)), .val (.ref t), .val (.int (0 : Int32)), .val (.int (1 : Int32)), .val (.int (0 : Int32)), .val (.int c0)] [(.int c0)])) _
    refine XS.sipush X0.here hx rfl (hb hby d_jdk_52_method_21_code_17) ?_
    show Steps pg.tables ev below (s₁.setTop (mkF mi 20 #[.val (.ref v), .val (.int (0 : Int32)), .val (.ref t), .val (.int (0 : Int32)), .val (.int (1 : Int32)), .val (.int (0 : Int32)), .val (.int c0)] [(.int (255 : Int32)), (.int c0)])) _
    refine XS.icmpYes X0.here hx rfl (pc0 := 20) (pc' := 26) rfl (hb hby d_jdk_52_method_21_code_20) rfl (flt hb0).2.2.2 (by decide) (by decide) ?_
    show Steps pg.tables ev below (s₁.setTop (mkF mi 26 #[.val (.ref v), .val (.int (0 : Int32)), .val (.ref t), .val (.int (0 : Int32)), .val (.int (1 : Int32)), .val (.int (0 : Int32)), .val (.int c0)] [])) _
    refine XS.aloadN X0.here hx rfl (hb hby d_jdk_52_method_21_code_26) rfl rfl ?_
    show Steps pg.tables ev below (s₁.setTop (mkF mi 27 #[.val (.ref v), .val (.int (0 : Int32)), .val (.ref t), .val (.int (0 : Int32)), .val (.int (1 : Int32)), .val (.int (0 : Int32)), .val (.int c0)] [(.ref t)])) _
    refine XS.iloadN X0.here hx rfl (hb hby d_jdk_52_method_21_code_27) rfl ?_
    show Steps pg.tables ev below (s₁.setTop (mkF mi 28 #[.val (.ref v), .val (.int (0 : Int32)), .val (.ref t), .val (.int (0 : Int32)), .val (.int (1 : Int32)), .val (.int (0 : Int32)), .val (.int c0)] [(.int (0 : Int32)), (.ref t)])) _
    refine XS.iload X0.here hx rfl (hb hby d_jdk_52_method_21_code_28) rfl ?_
    show Steps pg.tables ev below (s₁.setTop (mkF mi 30 #[.val (.ref v), .val (.int (0 : Int32)), .val (.ref t), .val (.int (0 : Int32)), .val (.int (1 : Int32)), .val (.int (0 : Int32)), .val (.int c0)] [(.int c0), (.int (0 : Int32)), (.ref t)])) _
    refine XS.i2b X0.here hx rfl (hb hby d_jdk_52_method_21_code_30) rfl ?_
    show Steps pg.tables ev below (s₁.setTop (mkF mi 31 #[.val (.ref v), .val (.int (0 : Int32)), .val (.ref t), .val (.int (0 : Int32)), .val (.int (1 : Int32)), .val (.int (0 : Int32)), .val (.int c0)] [(.int (c0.toInt8.toInt32)), (.int (0 : Int32)), (.ref t)])) _
    refine st102 _ ?_
    show Steps pg.tables ev below (T102.setTop (mkF mi 32 #[.val (.ref v), .val (.int (0 : Int32)), .val (.ref t), .val (.int (0 : Int32)), .val (.int (1 : Int32)), .val (.int (0 : Int32)), .val (.int c0)] [])) _
    refine XS.iinc X102.here hx rfl (hb hby d_jdk_52_method_21_code_32) rfl (l' := #[.val (.ref v), .val (.int (1 : Int32)), .val (.ref t), .val (.int (0 : Int32)), .val (.int (1 : Int32)), .val (.int (0 : Int32)), .val (.int c0)]) rfl ?_
    show Steps pg.tables ev below (T102.setTop (mkF mi 35 #[.val (.ref v), .val (.int (1 : Int32)), .val (.ref t), .val (.int (0 : Int32)), .val (.int (1 : Int32)), .val (.int (0 : Int32)), .val (.int c0)] [])) _
    refine XS.iinc X102.here hx rfl (hb hby d_jdk_52_method_21_code_35) rfl (l' := #[.val (.ref v), .val (.int (1 : Int32)), .val (.ref t), .val (.int (1 : Int32)), .val (.int (1 : Int32)), .val (.int (0 : Int32)), .val (.int c0)]) rfl ?_
    show Steps pg.tables ev below (T102.setTop (mkF mi 38 #[.val (.ref v), .val (.int (1 : Int32)), .val (.ref t), .val (.int (1 : Int32)), .val (.int (1 : Int32)), .val (.int (0 : Int32)), .val (.int c0)] [])) _
    refine XS.iinc X102.here hx rfl (hb hby d_jdk_52_method_21_code_38) rfl (l' := #[.val (.ref v), .val (.int (1 : Int32)), .val (.ref t), .val (.int (1 : Int32)), .val (.int (1 : Int32)), .val (.int (1 : Int32)), .val (.int c0)]) rfl ?_
    show Steps pg.tables ev below (T102.setTop (mkF mi 41 #[.val (.ref v), .val (.int (1 : Int32)), .val (.ref t), .val (.int (1 : Int32)), .val (.int (1 : Int32)), .val (.int (1 : Int32)), .val (.int c0)] [])) _
    refine XS.goto X102.here hx rfl (pc0 := 41) (pc' := 3) rfl (hb hby d_jdk_52_method_21_code_41) (by decide) (by decide) ?_
    show Steps pg.tables ev below (T102.setTop (mkF mi 3 #[.val (.ref v), .val (.int (1 : Int32)), .val (.ref t), .val (.int (1 : Int32)), .val (.int (1 : Int32)), .val (.int (1 : Int32)), .val (.int c0)] [])) _
    refine XS.iload X102.here hx rfl (hb hby d_jdk_52_method_21_code_3) rfl ?_
    show Steps pg.tables ev below (T102.setTop (mkF mi 5 #[.val (.ref v), .val (.int (1 : Int32)), .val (.ref t), .val (.int (1 : Int32)), .val (.int (1 : Int32)), .val (.int (1 : Int32)), .val (.int c0)] [(.int (1 : Int32))])) _
    refine XS.iload X102.here hx rfl (hb hby d_jdk_52_method_21_code_5) rfl ?_
    show Steps pg.tables ev below (T102.setTop (mkF mi 7 #[.val (.ref v), .val (.int (1 : Int32)), .val (.ref t), .val (.int (1 : Int32)), .val (.int (1 : Int32)), .val (.int (1 : Int32)), .val (.int c0)] [(.int (1 : Int32)), (.int (1 : Int32))])) _
    refine XS.icmpYes X102.here hx rfl (pc0 := 7) (pc' := 44) rfl (hb hby d_jdk_52_method_21_code_7) rfl (flt (fun q => absurd q (by simp [Int32.lt_irrefl]) : ¬ ((1 : Int32) < (1 : Int32)))).2.1 (by decide) (by decide) ?_
    show Steps pg.tables ev below (T102.setTop (mkF mi 44 #[.val (.ref v), .val (.int (1 : Int32)), .val (.ref t), .val (.int (1 : Int32)), .val (.int (1 : Int32)), .val (.int (1 : Int32)), .val (.int c0)] [])) _
    refine XS.iload X102.here hx rfl (hb hby d_jdk_52_method_21_code_44) rfl ?_
    show Steps pg.tables ev below (T102.setTop (mkF mi 46 #[.val (.ref v), .val (.int (1 : Int32)), .val (.ref t), .val (.int (1 : Int32)), .val (.int (1 : Int32)), .val (.int (1 : Int32)), .val (.int c0)] [(.int (1 : Int32))])) _
    exact retI X102 hx Bd.returns (hb hby d_jdk_52_method_21_code_46) hr
  · show Q_cpd1 Z v t kv kt c0 hE n0 _ T102.heap _
    rw [e102]
    exact ⟨rfl, N102, ((Keep.refl hE [t]).trans (Keep.of_wr W102) (allS (Or.inl (List.mem_of_getElem? (i := 0) rfl)) all0)), f104⟩
theorem d_jdk_52_method_16_code_0 : decode jdk_52_method_16_code 0 = .ok (.iload_n 2, 1) := by decide +kernel
theorem d_jdk_52_method_16_code_1 : decode jdk_52_method_16_code 1 = .ok (.newarray .byte, 2) := by decide +kernel
theorem d_jdk_52_method_16_code_3 : decode jdk_52_method_16_code 3 = .ok (.astore_n 3, 1) := by decide +kernel
theorem d_jdk_52_method_16_code_4 : decode jdk_52_method_16_code 4 = .ok (.aload_n 0, 1) := by decide +kernel
theorem d_jdk_52_method_16_code_5 : decode jdk_52_method_16_code 5 = .ok (.iload_n 1, 1) := by decide +kernel
theorem d_jdk_52_method_16_code_6 : decode jdk_52_method_16_code 6 = .ok (.aload_n 3, 1) := by decide +kernel
theorem d_jdk_52_method_16_code_7 : decode jdk_52_method_16_code 7 = .ok (.iconst 0, 1) := by decide +kernel
theorem d_jdk_52_method_16_code_8 : decode jdk_52_method_16_code 8 = .ok (.iload_n 2, 1) := by decide +kernel
theorem d_jdk_52_method_16_code_9 : decode jdk_52_method_16_code 9 = .ok (.invokestatic 115, 3) := by decide +kernel
theorem d_jdk_52_method_16_code_12 : decode jdk_52_method_16_code 12 = .ok (.istore 4, 2) := by decide +kernel
theorem d_jdk_52_method_16_code_14 : decode jdk_52_method_16_code 14 = .ok (.iload 4, 2) := by decide +kernel
theorem d_jdk_52_method_16_code_16 : decode jdk_52_method_16_code 16 = .ok (.iload_n 2, 1) := by decide +kernel
theorem d_jdk_52_method_16_code_17 : decode jdk_52_method_16_code 17 = .ok (.if_icmp .eq 40, 3) := by decide +kernel
theorem d_jdk_52_method_16_code_57 : decode jdk_52_method_16_code 57 = .ok (.aload_n 3, 1) := by decide +kernel
theorem d_jdk_52_method_16_code_58 : decode jdk_52_method_16_code 58 = .ok (.areturn, 1) := by decide +kernel
theorem pd_0 : parseMethodDescriptor "([CI[BII)I" = some ⟨[(.array .char), .int, (.array .byte), .int, .int], some .int⟩ := by decide +kernel
theorem ef_cpc1 (mi : MethodId) (v : Addr) : entryFrame mi #[(.ref v), (.int (0 : Int32)), (.int (1 : Int32))] 6 = mkF mi 0 #[.val (.ref v), .val (.int (0 : Int32)), .val (.int (1 : Int32)), .unset, .unset, .unset] [] := by first | (simp [entryFrame, mkF, argsToLocals, Value.category]; done) | rfl
def Q_cpc1 (Z : State) (v : Addr) (kv : ClassId) (c0 : Int32) (hE : Heap) (n0 : Nat) (vv : Option Value) (hh : Heap) (LL : List Loc) : Prop := ∃ t : Addr, ∃ kt : ClassId, (vv = some (.ref t)) ∧ (Fr n0 LL) ∧ (Keep hE hh []) ∧ (hE.size ≤ t) ∧ (Arv Z hh t kt .byte (1 : Int32) [(.int c0.toInt8.toInt32)] (.int (0 : Int32)))
set_option maxRecDepth 65536 in
set_option maxHeartbeats 40000000 in
theorem rm_cpc1 (la : Launch) (Z : State) (a0 : Array Value) (hw : ∀ d ∈ tables_1, d.before a0 Z = true) (ws : List Jvm.Cond) (v : Addr) (kv : ClassId) (c0 : Int32) (hE : Heap) (n0 : Nat) (O : Old Z n0 hE) (P0_ : Arv Z hE v kv .char (1 : Int32) [(.int c0)] (.int (0 : Int32))) (hb0 : ¬ ((255 : Int32) < c0)) :
    MetFree la mn3 (head1 (Jvm.Cond.code mn3 jdk_52_method_16_code 6 (some (.array .byte)) :: ws) ({ frames := 1, cells := 1, slots := 1, locals := 18 } : Room)) (fun aa UU => aa = #[(.ref v), (.int (0 : Int32)), (.int (1 : Int32))] ∧ Z.Warmed39 UU.vm ∧ UU.heap = hE) (fun _ _ _ _ _ => True) (fun _ UU oo UV => ∃ vv LL, oo = .returned vv ∧ Q_cpc1 Z v kv c0 hE n0 vv UV.heap LL ∧ FrameEnd UU oo UV LL ({ frames := 1, cells := 1, slots := 1, locals := 18 } : Room).cells ({ frames := 1, cells := 1, slots := 1, locals := 18 } : Room).slots) := by
  refine MetFree.of_bodySF (plainFor_of_name pn_java_lang_StringUTF16) hisR ?_
  intro pg ev sb mi gs below me cd s₁ Bd hml0 hPt hKt
  obtain ⟨rfl, hZ, hh⟩ := hPt
  have hx := Bd.exec
  have hby := Bd.bytes
  have hml : cd.maxLocals = 6 := hml0
  have hown : sb.vm.findClass "java/lang/StringUTF16" = some mi.cls := findClass_of_methodNamed Bd.named
  have hnm := (name_of_methodNamed Bd.named Bd.method).1
  have X0 : Stand pg la ev ({ frames := 1, cells := 1, slots := 1, locals := 18 } : Room) sb mi #[(.ref v), (.int (0 : Int32)), (.int (1 : Int32))] below me cd s₁ [] 0 0 := Stand.of_body Bd
  have eE : s₁.heap = hE := by rw [← hh, Bd.state]; rfl
  have N0 := Fr.nil n0
  have pre0 : ∀ tt, Steps pg.tables ev below (s₁.setTop (mkF mi 0 #[.val (.ref v), .val (.int (0 : Int32)), .val (.int (1 : Int32)), .unset, .unset, .unset] [])) tt → Steps pg.tables ev below (s₁.setTop (entryFrame mi #[(.ref v), (.int (0 : Int32)), (.int (1 : Int32))] 6)) tt := fun tt kk => castTop (ef_cpc1 mi v) kk
  obtain ⟨T101, h101, k101, X101, e101, E101, A101, st101⟩ := newP (aty := .byte) X0 hx hZ (wd26 hw) eE (g := (mkF mi 1 #[.val (.ref v), .val (.int (0 : Int32)), .val (.int (1 : Int32)), .unset, .unset, .unset] [(.int (1 : Int32))])) rfl (hb hby d_jdk_52_method_16_code_1) rfl (by decide) (cap := 1) (by decide) (by decide) (by decide) (by decide)
  obtain ⟨b101, q101⟩ : ∃ z, z = hE.size := ⟨_, rfl⟩
  rw [← q101] at A101 st101
  have f102 : Arv Z h101 b101 k101 .byte (1 : Int32) [(.int (0 : Int32))] (.int (0 : Int32)) := (Arv.new A101 (by decide)).pad (pad_rep [] (.int (0 : Int32)) 1)
  have O103 : Old Z n0 h101 := (O.ext E101)
  have f104 : Arv Z h101 v kv .char (1 : Int32) [(.int c0)] (.int (0 : Int32)) := (P0_.ext E101)
  have g_b101 : n0 ≤ b101 := Nat.le_trans (Nat.le_trans (Nat.le_of_eq O.1.symm) O.2.1) (Nat.le_of_eq q101.symm)
  have ne_v_b101 : v ≠ b101 := Nat.ne_of_lt (Nat.lt_of_lt_of_le P0_.lt (Nat.le_trans (Nat.le_refl _) (Nat.le_of_eq q101.symm)))
  obtain ⟨v105, _, ⟨T105, L105, k105, n105⟩, -, X105, ⟨Lc105, hQ105, l105, y105, z105⟩, st105⟩ := Jvm.LawKit.callS X101 hx (y := mn2) hown (mvT hZ (wd76 hw)) (mvT hZ (wd77 hw)) (mvT hZ (wd74 hw)) (mvT hZ (wd78 hw)) (by decide) (backOf (W := 0) (rm_cpd1 la Z a0 hw [] v b101 kv k101 c0 h101 n0 O103 f104 f102 g_b101 ne_v_b101 (hb0 : ¬ ((255 : Int32) < c0))) hZ (wd78 hw) (wd74 hw) (by decide) (by decide)) (g := (mkF mi 9 #[.val (.ref v), .val (.int (0 : Int32)), .val (.int (1 : Int32)), .val (.ref b101), .unset, .unset] [(.int (1 : Int32)), (.int (0 : Int32)), (.ref b101), (.int (0 : Int32)), (.ref v)])) rfl (by rw [hml]; rfl) (argsL := [(.ref v), (.int (0 : Int32)), (.ref b101), (.int (0 : Int32)), (.int (1 : Int32))]) (rest := []) (lenOf pd_0 rfl) rfl (by show 2 * 0 + _ ≤ _; exact Nat.le_of_eq rfl) (hb hby d_jdk_52_method_16_code_9) (fun _ _ => ⟨rfl, e101, (by decide : 1 + 0 ≤ _), (by decide : 1 + 0 ≤ _)⟩)
  dsimp only [Pt.U, Pt.locs, Pt.cells, Pt.slots] at X105 l105 y105 z105 st105 hQ105
  subst l105 y105 z105
  obtain ⟨rfl, Nq105, Kq105, r105_0⟩ := hQ105
  have N105 := Fr.app N0 Nq105
  obtain ⟨fs, hr, hrun, hended, hW, hsame⟩ := X105.leave (v := some (.ref b101)) (fun hq => by rw [Bd.returns] at hq; cases hq)
  refine ⟨_, _, pre0 _ ?_, hrun, hended, _, _, rfl, ?_, ⟨_, rfl⟩, hW, hsame.mono (by decide) (by decide)⟩
  · show Steps pg.tables ev below (s₁.setTop (mkF mi 0 #[.val (.ref v), .val (.int (0 : Int32)), .val (.int (1 : Int32)), .unset, .unset, .unset] [])) _
    refine XS.iloadN X0.here hx rfl (hb hby d_jdk_52_method_16_code_0) rfl ?_
    show Steps pg.tables ev below (s₁.setTop (mkF mi 1 #[.val (.ref v), .val (.int (0 : Int32)), .val (.int (1 : Int32)), .unset, .unset, .unset] [(.int (1 : Int32))])) _
    refine st101 _ ?_
    show Steps pg.tables ev below (T101.setTop (mkF mi 3 #[.val (.ref v), .val (.int (0 : Int32)), .val (.int (1 : Int32)), .unset, .unset, .unset] [(.ref b101)])) _
    refine XS.astoreN X101.here hx rfl (hb hby d_jdk_52_method_16_code_3) rfl rfl (l' := #[.val (.ref v), .val (.int (0 : Int32)), .val (.int (1 : Int32)), .val (.ref b101), .unset, .unset]) rfl ?_
    show Steps pg.tables ev below (T101.setTop (mkF mi 4 #[.val (.ref v), .val (.int (0 : Int32)), .val (.int (1 : Int32)), .val (.ref b101), .unset, .unset] [])) _
    refine XS.aloadN X101.here hx rfl (hb hby d_jdk_52_method_16_code_4) rfl rfl ?_
    show Steps pg.tables ev below (T101.setTop (mkF mi 5 #[.val (.ref v), .val (.int (0 : Int32)), .val (.int (1 : Int32)), .val (.ref b101), .unset, .unset] [(.ref v)])) _
    refine XS.iloadN X101.here hx rfl (hb hby d_jdk_52_method_16_code_5) rfl ?_
    show Steps pg.tables ev below (T101.setTop (mkF mi 6 #[.val (.ref v), .val (.int (0 : Int32)), .val (.int (1 : Int32)), .val (.ref b101), .unset, .unset] [(.int (0 : Int32)), (.ref v)])) _
    refine XS.aloadN X101.here hx rfl (hb hby d_jdk_52_method_16_code_6) rfl rfl ?_
    show Steps pg.tables ev below (T101.setTop (mkF mi 7 #[.val (.ref v), .val (.int (0 : Int32)), .val (.int (1 : Int32)), .val (.ref b101), .unset, .unset] [(.ref b101), (.int (0 : Int32)), (.ref v)])) _
    refine XS.iconst X101.here hx rfl (hb hby d_jdk_52_method_16_code_7) ?_
    show Steps pg.tables ev below (T101.setTop (mkF mi 8 #[.val (.ref v), .val (.int (0 : Int32)), .val (.int (1 : Int32)), .val (.ref b101), .unset, .unset] [(.int (0 : Int32)), (.ref b101), (.int (0 : Int32)), (.ref v)])) _
    refine XS.iloadN X101.here hx rfl (hb hby d_jdk_52_method_16_code_8) rfl ?_
    show Steps pg.tables ev below (T101.setTop (mkF mi 9 #[.val (.ref v), .val (.int (0 : Int32)), .val (.int (1 : Int32)), .val (.ref b101), .unset, .unset] [(.int (1 : Int32)), (.int (0 : Int32)), (.ref b101), (.int (0 : Int32)), (.ref v)])) _
    refine st105 _ ?_
    show Steps pg.tables ev below (T105.setTop (mkF mi 12 #[.val (.ref v), .val (.int (0 : Int32)), .val (.int (1 : Int32)), .val (.ref b101), .unset, .unset] [(.int (1 : Int32))])) _
    refine XS.istore X105.here hx rfl (hb hby d_jdk_52_method_16_code_12) rfl (l' := #[.val (.ref v), .val (.int (0 : Int32)), .val (.int (1 : Int32)), .val (.ref b101), .val (.int (1 : Int32)), .unset]) rfl ?_
    show Steps pg.tables ev below (T105.setTop (mkF mi 14 #[.val (.ref v), .val (.int (0 : Int32)), .val (.int (1 : Int32)), .val (.ref b101), .val (.int (1 : Int32)), .unset] [])) _
    refine XS.iload X105.here hx rfl (hb hby d_jdk_52_method_16_code_14) rfl ?_
    show Steps pg.tables ev below (T105.setTop (mkF mi 16 #[.val (.ref v), .val (.int (0 : Int32)), .val (.int (1 : Int32)), .val (.ref b101), .val (.int (1 : Int32)), .unset] [(.int (1 : Int32))])) _
    refine XS.iloadN X105.here hx rfl (hb hby d_jdk_52_method_16_code_16) rfl ?_
    show Steps pg.tables ev below (T105.setTop (mkF mi 17 #[.val (.ref v), .val (.int (0 : Int32)), .val (.int (1 : Int32)), .val (.ref b101), .val (.int (1 : Int32)), .unset] [(.int (1 : Int32)), (.int (1 : Int32))])) _
    refine XS.icmpYes X105.here hx rfl (pc0 := 17) (pc' := 57) rfl (hb hby d_jdk_52_method_16_code_17) rfl (teq (rfl : (1 : Int32) = (1 : Int32))).1 (by decide) (by decide) ?_
    show Steps pg.tables ev below (T105.setTop (mkF mi 57 #[.val (.ref v), .val (.int (0 : Int32)), .val (.int (1 : Int32)), .val (.ref b101), .val (.int (1 : Int32)), .unset] [])) _
    refine XS.aloadN X105.here hx rfl (hb hby d_jdk_52_method_16_code_57) rfl rfl ?_
    show Steps pg.tables ev below (T105.setTop (mkF mi 58 #[.val (.ref v), .val (.int (0 : Int32)), .val (.int (1 : Int32)), .val (.ref b101), .val (.int (1 : Int32)), .unset] [(.ref b101)])) _
    jvm_step X105.here [X105.here.top, hx, (hb hby d_jdk_52_method_16_code_58), X105.method', Bd.returns, Value.isRef, FieldType.isReference]
    first | (intro acts; rw [hr _ acts rfl rfl rfl]) | rw [hr _ _ rfl rfl rfl]
    exact Steps.refl _
  · show Q_cpc1 Z v kv c0 hE n0 _ T105.heap _
    exact ⟨b101, k101, rfl, N105, (((Keep.refl hE []).ext E101).trans Kq105 (allS (Or.inr (Nat.le_of_eq q101.symm)) all0)), (Nat.le_of_eq q101.symm), r105_0⟩
theorem d_jdk_42_method_149_code_0 : decode jdk_42_method_149_code 0 = .ok (.aload_n 0, 1) := by decide +kernel
theorem d_jdk_42_method_149_code_1 : decode jdk_42_method_149_code 1 = .ok (.invokespecial 1, 3) := by decide +kernel
theorem d_jdk_42_method_149_code_4 : decode jdk_42_method_149_code 4 = .ok (.iload_n 3, 1) := by decide +kernel
theorem d_jdk_42_method_149_code_5 : decode jdk_42_method_149_code 5 = .ok (.ifCond .ne 22, 3) := by decide +kernel
theorem d_jdk_42_method_149_code_27 : decode jdk_42_method_149_code 27 = .ok (.getstatic 38, 3) := by decide +kernel
theorem d_jdk_42_method_149_code_30 : decode jdk_42_method_149_code 30 = .ok (.ifCond .eq 28, 3) := by decide +kernel
theorem d_jdk_42_method_149_code_33 : decode jdk_42_method_149_code 33 = .ok (.aload_n 1, 1) := by decide +kernel
theorem d_jdk_42_method_149_code_34 : decode jdk_42_method_149_code 34 = .ok (.iload_n 2, 1) := by decide +kernel
theorem d_jdk_42_method_149_code_35 : decode jdk_42_method_149_code 35 = .ok (.iload_n 3, 1) := by decide +kernel
theorem d_jdk_42_method_149_code_36 : decode jdk_42_method_149_code 36 = .ok (.invokestatic 177, 3) := by decide +kernel
theorem d_jdk_42_method_149_code_39 : decode jdk_42_method_149_code 39 = .ok (.astore 5, 2) := by decide +kernel
theorem d_jdk_42_method_149_code_41 : decode jdk_42_method_149_code 41 = .ok (.aload_n 0, 1) := by decide +kernel
theorem d_jdk_42_method_149_code_42 : decode jdk_42_method_149_code 42 = .ok (.aload 5, 2) := by decide +kernel
theorem d_jdk_42_method_149_code_44 : decode jdk_42_method_149_code 44 = .ok (.iload_n 3, 1) := by decide +kernel
theorem d_jdk_42_method_149_code_45 : decode jdk_42_method_149_code 45 = .ok (.invokestatic 47, 3) := by decide +kernel
theorem d_jdk_42_method_149_code_48 : decode jdk_42_method_149_code 48 = .ok (.putfield 15, 3) := by decide +kernel
theorem d_jdk_42_method_149_code_51 : decode jdk_42_method_149_code 51 = .ok (.aload_n 0, 1) := by decide +kernel
theorem d_jdk_42_method_149_code_52 : decode jdk_42_method_149_code 52 = .ok (.aload 5, 2) := by decide +kernel
theorem d_jdk_42_method_149_code_54 : decode jdk_42_method_149_code 54 = .ok (.putfield 9, 3) := by decide +kernel
theorem d_jdk_42_method_149_code_57 : decode jdk_42_method_149_code 57 = .ok (.return_, 1) := by decide +kernel
theorem pd_1 : parseMethodDescriptor "([CII)[B" = some ⟨[(.array .char), .int, .int], some (.array .byte)⟩ := by decide +kernel
theorem pd_2 : parseMethodDescriptor "([BI)B" = some ⟨[(.array .byte), .int], some .byte⟩ := by decide +kernel
theorem pn_java_lang_String : plainName "java/lang/String" = true := by first | (simp [plainName, overriddenIn]; done) | decide +kernel
theorem ef_siv1 (mi : MethodId) (x : Addr) (v : Addr) : entryFrame mi #[(.ref x), (.ref v), (.int (0 : Int32)), (.int (1 : Int32)), .null] 6 = mkF mi 0 #[.val (.ref x), .val (.ref v), .val (.int (0 : Int32)), .val (.int (1 : Int32)), .val .null, .unset] [] := by first | (simp [entryFrame, mkF, argsToLocals, Value.category]; done) | rfl
def Q_siv1 (Z : State) (x : Addr) (v : Addr) (kv : ClassId) (zc : Int32) (c0 : Int32) (hE : Heap) (n0 : Nat) (vv : Option Value) (hh : Heap) (LL : List Loc) : Prop := ∃ t : Addr, (vv = none) ∧ (Fr n0 LL) ∧ (Keep hE hh [x]) ∧ (hE.size ≤ t) ∧ (LStr Z hh x t ([c0] : List Int32))
set_option maxRecDepth 65536 in
set_option maxHeartbeats 40000000 in
theorem rm_siv1 (la : Launch) (Z : State) (a0 : Array Value) (hw : ∀ d ∈ tables_1, d.before a0 Z = true) (ws : List Jvm.Cond) (x : Addr) (v : Addr) (kv : ClassId) (zc : Int32) (c0 : Int32) (hE : Heap) (n0 : Nat) (O : Old Z n0 hE) (P0_ : Exa Z hE x "java/lang/String") (P1_ : Fld Z hE x "java/lang/String" "value" "[B" .null) (P2_ : Fld Z hE x "java/lang/String" "coder" "B" (.int (0 : Int32))) (P3_ : Arv Z hE v kv .char (1 : Int32) [(.int c0)] (.int (0 : Int32))) (D0_ : Sta Z Z.heap "java/lang/String" "COMPACT_STRINGS" "Z" (.int zc)) (g_x : n0 ≤ x) (ne_v_x : v ≠ x) (hb0 : ¬ ((255 : Int32) < c0)) (hn0 : ¬ (c0 < (0 : Int32))) (hzc : ¬ (zc = (0 : Int32))) :
    MetFree la mn4 (head1 (Jvm.Cond.code mn4 jdk_42_method_149_code 6 none :: ws) ({ frames := 2, cells := 1, slots := 1, locals := 35 } : Room)) (fun aa UU => aa = #[(.ref x), (.ref v), (.int (0 : Int32)), (.int (1 : Int32)), .null] ∧ Z.Warmed39 UU.vm ∧ UU.heap = hE) (fun _ _ _ _ _ => True) (fun _ UU oo UV => ∃ vv LL, oo = .returned vv ∧ Q_siv1 Z x v kv zc c0 hE n0 vv UV.heap LL ∧ FrameEnd UU oo UV LL ({ frames := 2, cells := 1, slots := 1, locals := 35 } : Room).cells ({ frames := 2, cells := 1, slots := 1, locals := 35 } : Room).slots) := by
  refine MetFree.of_bodySF (plainFor_of_name pn_java_lang_String) hisR ?_
  intro pg ev sb mi gs below me cd s₁ Bd hml0 hPt hKt
  obtain ⟨rfl, hZ, hh⟩ := hPt
  have hx := Bd.exec
  have hby := Bd.bytes
  have hml : cd.maxLocals = 6 := hml0
  have hown : sb.vm.findClass "java/lang/String" = some mi.cls := findClass_of_methodNamed Bd.named
  have hnm := (name_of_methodNamed Bd.named Bd.method).1
  have X0 : Stand pg la ev ({ frames := 2, cells := 1, slots := 1, locals := 35 } : Room) sb mi #[(.ref x), (.ref v), (.int (0 : Int32)), (.int (1 : Int32)), .null] below me cd s₁ [] 0 0 := Stand.of_body Bd
  have eE : s₁.heap = hE := by rw [← hh, Bd.state]; rfl
  have N0 := Fr.nil n0
  have pre0 : ∀ tt, Steps pg.tables ev below (s₁.setTop (mkF mi 0 #[.val (.ref x), .val (.ref v), .val (.int (0 : Int32)), .val (.int (1 : Int32)), .val .null, .unset] [])) tt → Steps pg.tables ev below (s₁.setTop (entryFrame mi #[(.ref x), (.ref v), (.int (0 : Int32)), (.int (1 : Int32)), .null] 6)) tt := fun tt kk => castTop (ef_siv1 mi x v) kk
  obtain ⟨T101, X101, e101, st101⟩ := initO X0 hx hZ hown (wd22 hw) (wd23 hw) (wd24 hw) eE (g := (mkF mi 1 #[.val (.ref x), .val (.ref v), .val (.int (0 : Int32)), .val (.int (1 : Int32)), .val .null, .unset] [(.ref x)])) rfl (by rw [hml]; rfl) rfl (hb hby d_jdk_42_method_149_code_1) (by decide) (W := 0) (by show 2 * 0 + _ ≤ _; exact Nat.le_of_eq rfl) (by decide)
  obtain ⟨T102, X102, e102, st102⟩ := getS2 X101 hx hZ hown (host := "") (Or.inl (wd61 hw)) Via.refl e101 (D0_.ext O.2) (g := (mkF mi 27 #[.val (.ref x), .val (.ref v), .val (.int (0 : Int32)), .val (.int (1 : Int32)), .val .null, .unset] [])) rfl (hb hby d_jdk_42_method_149_code_27)
  obtain ⟨v103, _, ⟨T103, L103, k103, n103⟩, -, X103, ⟨Lc103, hQ103, l103, y103, z103⟩, st103⟩ := Jvm.LawKit.callS X102 hx (y := mn3) hown (mvT hZ (wd72 hw)) (mvT hZ (wd73 hw)) (mvT hZ (wd74 hw)) (mvT hZ (wd75 hw)) (by decide) (backOf (W := 0) (rm_cpc1 la Z a0 hw [] v kv c0 hE n0 O P3_ (hb0 : ¬ ((255 : Int32) < c0))) hZ (wd75 hw) (wd74 hw) (by decide) (by decide)) (g := (mkF mi 36 #[.val (.ref x), .val (.ref v), .val (.int (0 : Int32)), .val (.int (1 : Int32)), .val .null, .unset] [(.int (1 : Int32)), (.int (0 : Int32)), (.ref v)])) rfl (by rw [hml]; rfl) (argsL := [(.ref v), (.int (0 : Int32)), (.int (1 : Int32))]) (rest := []) (lenOf pd_1 rfl) rfl (by show 2 * 0 + _ ≤ _; exact Nat.le_of_eq rfl) (hb hby d_jdk_42_method_149_code_36) (fun _ _ => ⟨rfl, e102, (by decide : 0 + 1 ≤ _), (by decide : 0 + 1 ≤ _)⟩)
  dsimp only [Pt.U, Pt.locs, Pt.cells, Pt.slots] at X103 l103 y103 z103 st103 hQ103
  subst l103 y103 z103
  obtain ⟨t_103, kt_103, rfl, Nq103, Kq103, fr_t_103, r103_0⟩ := hQ103
  have N103 := Fr.app N0 Nq103
  have O104 : Old Z n0 T103.heap := (O.keep Kq103 all0)
  obtain ⟨v105, _, ⟨T105, L105, k105, n105⟩, -, X105, ⟨Lc105, hQ105, l105, y105, z105⟩, st105⟩ := Jvm.LawKit.callS X103 hx (y := mn1) hown (mvT hZ (wd79 hw)) (mvT hZ (wd80 hw)) (mvT hZ (wd74 hw)) (mvT hZ (wd81 hw)) (by decide) (backOf (W := 1) (rm_cfal la Z a0 hw [] t_103 (1 : Int32) kt_103 [(.int c0.toInt8.toInt32)] T103.heap n0 O104 r103_0) hZ (wd81 hw) (wd74 hw) (by decide) (by decide)) (g := (mkF mi 45 #[.val (.ref x), .val (.ref v), .val (.int (0 : Int32)), .val (.int (1 : Int32)), .val .null, .val (.ref t_103)] [(.int (1 : Int32)), (.ref t_103), (.ref x)])) rfl (by rw [hml]; rfl) (argsL := [(.ref t_103), (.int (1 : Int32))]) (rest := [(.ref x)]) (lenOf pd_2 rfl) rfl (by show 2 * 0 + _ ≤ _; exact Nat.le_of_eq rfl) (hb hby d_jdk_42_method_149_code_45) (fun _ _ => ⟨rfl, rfl, (by decide : 1 + 0 ≤ _), (by decide : 1 + 0 ≤ _)⟩)
  dsimp only [Pt.U, Pt.locs, Pt.cells, Pt.slots] at X105 l105 y105 z105 st105 hQ105
  subst l105 y105 z105
  obtain ⟨rfl, Nq105, ek105⟩ := hQ105
  have N105 := Fr.app N103 Nq105
  have f106 : Exa Z T103.heap x "java/lang/String" := (P0_.keep Kq103)
  have f107 : Fld Z T103.heap x "java/lang/String" "coder" "B" (.int (0 : Int32)) := (P2_.keep Kq103 nin0)
  obtain ⟨T108, h108, X108, e108, W108, st108⟩ := putFN X105 hx hZ hown (wd32 hw) Via.refl ek105 f107 f106 (Or.inr ⟨(wd28 hw), rfl, hnm⟩) (wd12 hw) (ty := .byte) (v' := (.int (0 : Int32))) (by decide) rfl rfl (g := (mkF mi 48 #[.val (.ref x), .val (.ref v), .val (.int (0 : Int32)), .val (.int (1 : Int32)), .val .null, .val (.ref t_103)] [(.int (0 : Int32)), (.ref x)])) rfl rfl (hb hby d_jdk_42_method_149_code_48)
  have N108 := Fr.snoc X108 N105 g_x
  have f109 : Fld Z h108 x "java/lang/String" "coder" "B" (.int (0 : Int32)) := f107.same W108
  have f110 : Exa Z h108 x "java/lang/String" := (f106.keep (Keep.of_wr W108))
  have f111 : Fld Z h108 x "java/lang/String" "value" "[B" .null := ((P1_.keep Kq103 nin0).other W108 (Or.inr (slot_ne (Or.inr (wd27 hw)) (Or.inr (wd28 hw)) (by decide) (t := (.array .byte)) (t' := .byte) (by decide) (by decide))))
  obtain ⟨T112, h112, X112, e112, W112, st112⟩ := putF X108 hx hZ hown (host := "") (Or.inl (wd31 hw)) Via.refl e108 f111 f110 (Or.inr ⟨(wd27 hw), rfl, hnm⟩) (wd12 hw) (ty := (.array .byte)) (by decide) rfl rfl (g := (mkF mi 54 #[.val (.ref x), .val (.ref v), .val (.int (0 : Int32)), .val (.int (1 : Int32)), .val .null, .val (.ref t_103)] [(.ref t_103), (.ref x)])) rfl rfl (hb hby d_jdk_42_method_149_code_54)
  have N112 := Fr.snoc X112 N108 g_x
  have f113 : Fld Z h112 x "java/lang/String" "value" "[B" (.ref t_103) := f111.same W112
  have f114 : Exa Z h112 x "java/lang/String" := (f110.keep (Keep.of_wr W112))
  have f115 : Fld Z h112 x "java/lang/String" "coder" "B" (.int (0 : Int32)) := (f109.other W112 (Or.inr (slot_ne (Or.inr (wd28 hw)) (Or.inr (wd27 hw)) (by decide) (t := .byte) (t' := (.array .byte)) (by decide) (by decide))))
  have ne_x_t_103 : x ≠ t_103 := Nat.ne_of_lt (Nat.lt_of_lt_of_le P0_.lt (Nat.le_trans (Nat.le_refl _) fr_t_103))
  have f116 : Arv Z h112 t_103 kt_103 .byte (1 : Int32) [(.int c0.toInt8.toInt32)] (.int (0 : Int32)) := ((r103_0.keep (Keep.of_wr W108) (ninS (Ne.symm ne_x_t_103) nin0)).keep (Keep.of_wr W112) (ninS (Ne.symm ne_x_t_103) nin0))
  have s117 : LStr Z h112 x t_103 ([c0] : List Int32) := ⟨f114, f113, f115, ⟨_, f116⟩, (by intro c hc; simp only [List.mem_cons, List.not_mem_nil, or_false] at hc; rcases hc with rfl <;> exact ⟨by assumption, by assumption⟩), (Nat.le_of_ble_eq_true rfl)⟩
  obtain ⟨fs, hr, hrun, hended, hW, hsame⟩ := X112.leave (v := none) (fun _ => rfl)
  refine ⟨_, _, pre0 _ ?_, hrun, hended, _, _, rfl, ?_, ⟨_, rfl⟩, hW, hsame.mono (by decide) (by decide)⟩
  · show Steps pg.tables ev below (s₁.setTop (mkF mi 0 #[.val (.ref x), .val (.ref v), .val (.int (0 : Int32)), .val (.int (1 : Int32)), .val .null, .unset] [])) _
    refine XS.aloadN X0.here hx rfl (hb hby d_jdk_42_method_149_code_0) rfl rfl ?_
    show Steps pg.tables ev below (s₁.setTop (mkF mi 1 #[.val (.ref x), .val (.ref v), .val (.int (0 : Int32)), .val (.int (1 : Int32)), .val .null, .unset] [(.ref x)])) _
    refine st101 _ ?_
    show Steps pg.tables ev below (T101.setTop (mkF mi 4 #[.val (.ref x), .val (.ref v), .val (.int (0 : Int32)), .val (.int (1 : Int32)), .val .null, .unset] [])) _
    refine XS.iloadN X101.here hx rfl (hb hby d_jdk_42_method_149_code_4) rfl ?_
    show Steps pg.tables ev below (T101.setTop (mkF mi 5 #[.val (.ref x), .val (.ref v), .val (.int (0 : Int32)), .val (.int (1 : Int32)), .val .null, .unset] [(.int (1 : Int32))])) _
    refine XS.ifYes X101.here hx rfl (pc0 := 5) (pc' := 27) rfl (hb hby d_jdk_42_method_149_code_5) rfl ((if0 _ _).trans (feq (by decide : ¬ ((1 : Int32) = (0 : Int32)))).2) (by decide) (by decide) ?_
    show Steps pg.tables ev below (T101.setTop (mkF mi 27 #[.val (.ref x), .val (.ref v), .val (.int (0 : Int32)), .val (.int (1 : Int32)), .val .null, .unset] [])) _
    refine st102 _ ?_
    show Steps pg.tables ev below (T102.setTop (mkF mi 30 #[.val (.ref x), .val (.ref v), .val (.int (0 : Int32)), .val (.int (1 : Int32)), .val .null, .unset] [(.int zc)])) _
    refine XS.ifNo X102.here hx rfl (hb hby d_jdk_42_method_149_code_30) rfl ((if0 _ _).trans (feq hzc).1) ?_
    show Steps pg.tables ev below (T102.setTop (mkF mi 33 #[.val (.ref x), .val (.ref v), .val (.int (0 : Int32)), .val (.int (1 : Int32)), .val .null, .unset] [])) _
    refine XS.aloadN X102.here hx rfl (hb hby d_jdk_42_method_149_code_33) rfl rfl ?_
    show Steps pg.tables ev below (T102.setTop (mkF mi 34 #[.val (.ref x), .val (.ref v), .val (.int (0 : Int32)), .val (.int (1 : Int32)), .val .null, .unset] [(.ref v)])) _
    refine XS.iloadN X102.here hx rfl (hb hby d_jdk_42_method_149_code_34) rfl ?_
    show Steps pg.tables ev below (T102.setTop (mkF mi 35 #[.val (.ref x), .val (.ref v), .val (.int (0 : Int32)), .val (.int (1 : Int32)), .val .null, .unset] [(.int (0 : Int32)), (.ref v)])) _
    refine XS.iloadN X102.here hx rfl (hb hby d_jdk_42_method_149_code_35) rfl ?_
    show Steps pg.tables ev below (T102.setTop (mkF mi 36 #[.val (.ref x), .val (.ref v), .val (.int (0 : Int32)), .val (.int (1 : Int32)), .val .null, .unset] [(.int (1 : Int32)), (.int (0 : Int32)), (.ref v)])) _
    refine st103 _ ?_
    show Steps pg.tables ev below (T103.setTop (mkF mi 39 #[.val (.ref x), .val (.ref v), .val (.int (0 : Int32)), .val (.int (1 : Int32)), .val .null, .unset] [(.ref t_103)])) _
    refine XS.astore X103.here hx rfl (hb hby d_jdk_42_method_149_code_39) rfl rfl (l' := #[.val (.ref x), .val (.ref v), .val (.int (0 : Int32)), .val (.int (1 : Int32)), .val .null, .val (.ref t_103)]) rfl ?_
    show Steps pg.tables ev below (T103.setTop (mkF mi 41 #[.val (.ref x), .val (.ref v), .val (.int (0 : Int32)), .val (.int (1 : Int32)), .val .null, .val (.ref t_103)] [])) _
    refine XS.aloadN X103.here hx rfl (hb hby d_jdk_42_method_149_code_41) rfl rfl ?_
    show Steps pg.tables ev below (T103.setTop (mkF mi 42 #[.val (.ref x), .val (.ref v), .val (.int (0 : Int32)), .val (.int (1 : Int32)), .val .null, .val (.ref t_103)] [(.ref x)])) _
    refine XS.aload X103.here hx rfl (hb hby d_jdk_42_method_149_code_42) rfl rfl ?_
    show Steps pg.tables ev below (T103.setTop (mkF mi 44 #[.val (.ref x), .val (.ref v), .val (.int (0 : Int32)), .val (.int (1 : Int32)), .val .null, .val (.ref t_103)] [(.ref t_103), (.ref x)])) _
    refine XS.iloadN X103.here hx rfl (hb hby d_jdk_42_method_149_code_44) rfl ?_
    show Steps pg.tables ev below (T103.setTop (mkF mi 45 #[.val (.ref x), .val (.ref v), .val (.int (0 : Int32)), .val (.int (1 : Int32)), .val .null, .val (.ref t_103)] [(.int (1 : Int32)), (.ref t_103), (.ref x)])) _
    refine st105 _ ?_
    show Steps pg.tables ev below (T105.setTop (mkF mi 48 #[.val (.ref x), .val (.ref v), .val (.int (0 : Int32)), .val (.int (1 : Int32)), .val .null, .val (.ref t_103)] [(.int (0 : Int32)), (.ref x)])) _
    refine st108 _ ?_
    show Steps pg.tables ev below (T108.setTop (mkF mi 51 #[.val (.ref x), .val (.ref v), .val (.int (0 : Int32)), .val (.int (1 : Int32)), .val .null, .val (.ref t_103)] [])) _
    refine XS.aloadN X108.here hx rfl (hb hby d_jdk_42_method_149_code_51) rfl rfl ?_
    show Steps pg.tables ev below (T108.setTop (mkF mi 52 #[.val (.ref x), .val (.ref v), .val (.int (0 : Int32)), .val (.int (1 : Int32)), .val .null, .val (.ref t_103)] [(.ref x)])) _
    refine XS.aload X108.here hx rfl (hb hby d_jdk_42_method_149_code_52) rfl rfl ?_
    show Steps pg.tables ev below (T108.setTop (mkF mi 54 #[.val (.ref x), .val (.ref v), .val (.int (0 : Int32)), .val (.int (1 : Int32)), .val .null, .val (.ref t_103)] [(.ref t_103), (.ref x)])) _
    refine st112 _ ?_
    show Steps pg.tables ev below (T112.setTop (mkF mi 57 #[.val (.ref x), .val (.ref v), .val (.int (0 : Int32)), .val (.int (1 : Int32)), .val .null, .val (.ref t_103)] [])) _
    exact X112.returnOut hx Bd.returns (hb hby d_jdk_42_method_149_code_57) hr
  · show Q_siv1 Z x v kv zc c0 hE n0 _ T112.heap _
    rw [e112]
    exact ⟨t_103, rfl, N112, ((((Keep.refl hE [x]).trans Kq103 all0).trans (Keep.of_wr W108) (allS (Or.inl (List.mem_of_getElem? (i := 0) rfl)) all0)).trans (Keep.of_wr W112) (allS (Or.inl (List.mem_of_getElem? (i := 0) rfl)) all0)), fr_t_103, s117⟩
theorem d_jdk_42_method_3_code_0 : decode jdk_42_method_3_code 0 = .ok (.aload_n 0, 1) := by decide +kernel
theorem d_jdk_42_method_3_code_1 : decode jdk_42_method_3_code 1 = .ok (.aload_n 1, 1) := by decide +kernel
theorem d_jdk_42_method_3_code_2 : decode jdk_42_method_3_code 2 = .ok (.iconst 0, 1) := by decide +kernel
theorem d_jdk_42_method_3_code_3 : decode jdk_42_method_3_code 3 = .ok (.aload_n 1, 1) := by decide +kernel
theorem d_jdk_42_method_3_code_4 : decode jdk_42_method_3_code 4 = .ok (.arraylength, 1) := by decide +kernel
theorem d_jdk_42_method_3_code_5 : decode jdk_42_method_3_code 5 = .ok (.aconst_null, 1) := by decide +kernel
theorem d_jdk_42_method_3_code_6 : decode jdk_42_method_3_code 6 = .ok (.invokespecial 27, 3) := by decide +kernel
theorem d_jdk_42_method_3_code_9 : decode jdk_42_method_3_code 9 = .ok (.return_, 1) := by decide +kernel
theorem pd_3 : parseMethodDescriptor "([CIILjava/lang/Void;)V" = some ⟨[(.array .char), .int, .int, (.object "java/lang/Void")], none⟩ := by decide +kernel
theorem ef_sic1 (mi : MethodId) (x : Addr) (v : Addr) : entryFrame mi #[(.ref x), (.ref v)] 2 = mkF mi 0 #[.val (.ref x), .val (.ref v)] [] := by first | (simp [entryFrame, mkF, argsToLocals, Value.category]; done) | rfl
def Q_sic1 (Z : State) (x : Addr) (v : Addr) (kv : ClassId) (zc : Int32) (c0 : Int32) (hE : Heap) (n0 : Nat) (vv : Option Value) (hh : Heap) (LL : List Loc) : Prop := ∃ t : Addr, (vv = none) ∧ (Fr n0 LL) ∧ (Keep hE hh [x]) ∧ (hE.size ≤ t) ∧ (LStr Z hh x t ([c0] : List Int32))
set_option maxRecDepth 65536 in
set_option maxHeartbeats 40000000 in
theorem rm_sic1 (la : Launch) (Z : State) (a0 : Array Value) (hw : ∀ d ∈ tables_1, d.before a0 Z = true) (ws : List Jvm.Cond) (x : Addr) (v : Addr) (kv : ClassId) (zc : Int32) (c0 : Int32) (hE : Heap) (n0 : Nat) (O : Old Z n0 hE) (P0_ : Exa Z hE x "java/lang/String") (P1_ : Fld Z hE x "java/lang/String" "value" "[B" .null) (P2_ : Fld Z hE x "java/lang/String" "coder" "B" (.int (0 : Int32))) (P3_ : Arv Z hE v kv .char (1 : Int32) [(.int c0)] (.int (0 : Int32))) (D0_ : Sta Z Z.heap "java/lang/String" "COMPACT_STRINGS" "Z" (.int zc)) (g_x : n0 ≤ x) (ne_v_x : v ≠ x) (hb0 : ¬ ((255 : Int32) < c0)) (hn0 : ¬ (c0 < (0 : Int32))) (hzc : ¬ (zc = (0 : Int32))) :
    MetFree la mn5 (head1 (Jvm.Cond.code mn5 jdk_42_method_3_code 2 none :: ws) ({ frames := 3, cells := 1, slots := 1, locals := 52 } : Room)) (fun aa UU => aa = #[(.ref x), (.ref v)] ∧ Z.Warmed39 UU.vm ∧ UU.heap = hE) (fun _ _ _ _ _ => True) (fun _ UU oo UV => ∃ vv LL, oo = .returned vv ∧ Q_sic1 Z x v kv zc c0 hE n0 vv UV.heap LL ∧ FrameEnd UU oo UV LL ({ frames := 3, cells := 1, slots := 1, locals := 52 } : Room).cells ({ frames := 3, cells := 1, slots := 1, locals := 52 } : Room).slots) := by
  refine MetFree.of_bodySF (plainFor_of_name pn_java_lang_String) hisR ?_
  intro pg ev sb mi gs below me cd s₁ Bd hml0 hPt hKt
  obtain ⟨rfl, hZ, hh⟩ := hPt
  have hx := Bd.exec
  have hby := Bd.bytes
  have hml : cd.maxLocals = 2 := hml0
  have hown : sb.vm.findClass "java/lang/String" = some mi.cls := findClass_of_methodNamed Bd.named
  have hnm := (name_of_methodNamed Bd.named Bd.method).1
  have X0 : Stand pg la ev ({ frames := 3, cells := 1, slots := 1, locals := 52 } : Room) sb mi #[(.ref x), (.ref v)] below me cd s₁ [] 0 0 := Stand.of_body Bd
  have eE : s₁.heap = hE := by rw [← hh, Bd.state]; rfl
  have N0 := Fr.nil n0
  have pre0 : ∀ tt, Steps pg.tables ev below (s₁.setTop (mkF mi 0 #[.val (.ref x), .val (.ref v)] [])) tt → Steps pg.tables ev below (s₁.setTop (entryFrame mi #[(.ref x), (.ref v)] 2)) tt := fun tt kk => castTop (ef_sic1 mi x v) kk
  obtain ⟨cl101, Ar101, -, Sz101, Nn101, -, -⟩ := id P3_
  obtain ⟨v102, _, ⟨T102, L102, k102, n102⟩, -, X102, ⟨Lc102, hQ102, l102, y102, z102⟩, st102⟩ := X0.specialBack hx (y := mn4) rfl hown (mvT hZ (wd18 hw)) (mvT hZ (wd19 hw)) (mvT hZ (wd21 hw)) (by decide) (backOf (W := 0) (rm_siv1 la Z a0 hw [] x v kv zc c0 hE n0 O P0_ P1_ P2_ P3_ D0_ g_x ne_v_x (hb0 : ¬ ((255 : Int32) < c0)) (hn0 : ¬ (c0 < (0 : Int32))) (hzc : ¬ (zc = (0 : Int32)))) hZ (wd21 hw) (wd13 hw) (by decide) (by decide)) (g := (mkF mi 6 #[.val (.ref x), .val (.ref v)] [.null, (.int (1 : Int32)), (.int (0 : Int32)), (.ref v), (.ref x)])) rfl (by rw [hml]; rfl) (Steps.refl _) (a := x) (argsL := [(.ref v), (.int (0 : Int32)), (.int (1 : Int32)), .null]) (rest := []) (lenOf pd_3 rfl) rfl (by show 2 * 0 + _ ≤ _; exact Nat.le_of_eq rfl) (hb hby d_jdk_42_method_3_code_6) (fun _ _ => ⟨rfl, eE, (by decide : 0 + 1 ≤ _), (by decide : 0 + 1 ≤ _)⟩)
  dsimp only [Pt.U, Pt.locs, Pt.cells, Pt.slots] at X102 l102 y102 z102 st102 hQ102
  subst l102 y102 z102
  obtain ⟨t_102, rfl, Nq102, Kq102, fr_t_102, r102_0⟩ := hQ102
  have N102 := Fr.app N0 Nq102
  obtain ⟨fs, hr, hrun, hended, hW, hsame⟩ := X102.leave (v := none) (fun _ => rfl)
  refine ⟨_, _, pre0 _ ?_, hrun, hended, _, _, rfl, ?_, ⟨_, rfl⟩, hW, hsame.mono (by decide) (by decide)⟩
  · show Steps pg.tables ev below (s₁.setTop (mkF mi 0 #[.val (.ref x), .val (.ref v)] [])) _
    refine XS.aloadN X0.here hx rfl (hb hby d_jdk_42_method_3_code_0) rfl rfl ?_
    show Steps pg.tables ev below (s₁.setTop (mkF mi 1 #[.val (.ref x), .val (.ref v)] [(.ref x)])) _
    refine XS.aloadN X0.here hx rfl (hb hby d_jdk_42_method_3_code_1) rfl rfl ?_
    show Steps pg.tables ev below (s₁.setTop (mkF mi 2 #[.val (.ref x), .val (.ref v)] [(.ref v), (.ref x)])) _
    refine XS.iconst X0.here hx rfl (hb hby d_jdk_42_method_3_code_2) ?_
    show Steps pg.tables ev below (s₁.setTop (mkF mi 3 #[.val (.ref x), .val (.ref v)] [(.int (0 : Int32)), (.ref v), (.ref x)])) _
    refine XS.aloadN X0.here hx rfl (hb hby d_jdk_42_method_3_code_3) rfl rfl ?_
    show Steps pg.tables ev below (s₁.setTop (mkF mi 4 #[.val (.ref x), .val (.ref v)] [(.ref v), (.int (0 : Int32)), (.ref v), (.ref x)])) _
    refine X0.arraylength hx (cell := cl101) (by rw [eE]; exact Ar101.1) (State.isArrayOf_alike hZ.alike Ar101.2.1) (g := (mkF mi 4 #[.val (.ref x), .val (.ref v)] [(.ref v), (.int (0 : Int32)), (.ref v), (.ref x)])) rfl (rest := [(.int (0 : Int32)), (.ref v), (.ref x)]) rfl (hb hby d_jdk_42_method_3_code_4) _ ?_
    rw [len_of Sz101 Nn101]
    show Steps pg.tables ev below (s₁.setTop (mkF mi 5 #[.val (.ref x), .val (.ref v)] [(.int (1 : Int32)), (.int (0 : Int32)), (.ref v), (.ref x)])) _
    refine XS.aconstNull X0.here hx rfl (hb hby d_jdk_42_method_3_code_5) ?_
    show Steps pg.tables ev below (s₁.setTop (mkF mi 6 #[.val (.ref x), .val (.ref v)] [.null, (.int (1 : Int32)), (.int (0 : Int32)), (.ref v), (.ref x)])) _
    refine st102.trans ?_
    show Steps pg.tables ev below (T102.setTop (mkF mi 9 #[.val (.ref x), .val (.ref v)] [])) _
    exact X102.returnOut hx Bd.returns (hb hby d_jdk_42_method_3_code_9) hr
  · show Q_sic1 Z x v kv zc c0 hE n0 _ T102.heap _
    exact ⟨t_102, rfl, N102, ((Keep.refl hE [x]).trans Kq102 (allS (Or.inl (List.mem_of_getElem? (i := 0) rfl)) all0)), fr_t_102, r102_0⟩
theorem ef_cpd2 (mi : MethodId) (v : Addr) (t : Addr) : entryFrame mi #[(.ref v), (.int (0 : Int32)), (.ref t), (.int (0 : Int32)), (.int (2 : Int32))] 7 = mkF mi 0 #[.val (.ref v), .val (.int (0 : Int32)), .val (.ref t), .val (.int (0 : Int32)), .val (.int (2 : Int32)), .unset, .unset] [] := by first | (simp [entryFrame, mkF, argsToLocals, Value.category]; done) | rfl
def Q_cpd2 (Z : State) (v : Addr) (t : Addr) (kv : ClassId) (kt : ClassId) (c0 : Int32) (c1 : Int32) (hE : Heap) (n0 : Nat) (vv : Option Value) (hh : Heap) (LL : List Loc) : Prop := (vv = some (.int (2 : Int32))) ∧ (Fr n0 LL) ∧ (Keep hE hh [t]) ∧ (Arv Z hh t kt .byte (2 : Int32) [(.int c0.toInt8.toInt32), (.int c1.toInt8.toInt32)] (.int (0 : Int32)))
set_option maxRecDepth 65536 in
set_option maxHeartbeats 40000000 in
theorem rm_cpd2 (la : Launch) (Z : State) (a0 : Array Value) (hw : ∀ d ∈ tables_1, d.before a0 Z = true) (ws : List Jvm.Cond) (v : Addr) (t : Addr) (kv : ClassId) (kt : ClassId) (c0 : Int32) (c1 : Int32) (hE : Heap) (n0 : Nat) (O : Old Z n0 hE) (P0_ : Arv Z hE v kv .char (2 : Int32) [(.int c0), (.int c1)] (.int (0 : Int32))) (P1_ : Arv Z hE t kt .byte (2 : Int32) [(.int (0 : Int32)), (.int (0 : Int32))] (.int (0 : Int32))) (g_t : n0 ≤ t) (ne_v_t : v ≠ t) (hb0 : ¬ ((255 : Int32) < c0)) (hb1 : ¬ ((255 : Int32) < c1)) :
    MetFree la mn2 (head1 (Jvm.Cond.code mn2 jdk_52_method_21_code 7 (some .int) :: ws) ({ frames := 0, cells := 0, slots := 0, locals := 0 } : Room)) (fun aa UU => aa = #[(.ref v), (.int (0 : Int32)), (.ref t), (.int (0 : Int32)), (.int (2 : Int32))] ∧ Z.Warmed39 UU.vm ∧ UU.heap = hE) (fun _ _ _ _ _ => True) (fun _ UU oo UV => ∃ vv LL, oo = .returned vv ∧ Q_cpd2 Z v t kv kt c0 c1 hE n0 vv UV.heap LL ∧ FrameEnd UU oo UV LL ({ frames := 0, cells := 0, slots := 0, locals := 0 } : Room).cells ({ frames := 0, cells := 0, slots := 0, locals := 0 } : Room).slots) := by
  refine MetFree.of_bodySF (plainFor_of_name pn_java_lang_StringUTF16) hisR ?_
  intro pg ev sb mi gs below me cd s₁ Bd hml0 hPt hKt
  obtain ⟨rfl, hZ, hh⟩ := hPt
  have hx := Bd.exec
  have hby := Bd.bytes
  have hml : cd.maxLocals = 7 := hml0
  have hown : sb.vm.findClass "java/lang/StringUTF16" = some mi.cls := findClass_of_methodNamed Bd.named
  have hnm := (name_of_methodNamed Bd.named Bd.method).1
  have X0 : Stand pg la ev ({ frames := 0, cells := 0, slots := 0, locals := 0 } : Room) sb mi #[(.ref v), (.int (0 : Int32)), (.ref t), (.int (0 : Int32)), (.int (2 : Int32))] below me cd s₁ [] 0 0 := Stand.of_body Bd
  have eE : s₁.heap = hE := by rw [← hh, Bd.state]; rfl
  have N0 := Fr.nil n0
  have pre0 : ∀ tt, Steps pg.tables ev below (s₁.setTop (mkF mi 0 #[.val (.ref v), .val (.int (0 : Int32)), .val (.ref t), .val (.int (0 : Int32)), .val (.int (2 : Int32)), .unset, .unset] [])) tt → Steps pg.tables ev below (s₁.setTop (entryFrame mi #[(.ref v), (.int (0 : Int32)), (.ref t), (.int (0 : Int32)), (.int (2 : Int32))] 7)) tt := fun tt kk => castTop (ef_cpd2 mi v t) kk
  obtain ⟨cl101, Ar101, -, Sz101, Nn101, Hh101, -⟩ := id P0_
  have hin101 : ¬ ((0 : Int32) < 0 ∨ cl101.slots.size ≤ ((0 : Int32)).toNatClampNeg) := inb_of Sz101 ⟨by decide, by decide⟩
  have hat101 : cl101.slots[((0 : Int32)).toNatClampNeg]? = some (.int c0) := Hh101.at hin101 rfl
  obtain ⟨cl102, Ar102, qq102, Sz102, Nn102, Hh102, Gg102⟩ := id P1_
  have hin102 : ¬ ((0 : Int32) < 0 ∨ cl102.slots.size ≤ ((0 : Int32)).toNatClampNeg) := inb_of Sz102 ⟨by decide, by decide⟩
  obtain ⟨T102, h102, X102, e102, W102, st102⟩ := stB X0 hx hZ eE Ar102 (j := (0 : Int32)) hin102 (g := (mkF mi 31 #[.val (.ref v), .val (.int (0 : Int32)), .val (.ref t), .val (.int (0 : Int32)), .val (.int (2 : Int32)), .val (.int (0 : Int32)), .val (.int c0)] [(.int (c0.toInt8.toInt32)), (.int (0 : Int32)), (.ref t)])) rfl rfl (hb hby d_jdk_52_method_21_code_31)
  have N102 := Fr.snoc X102 N0 g_t
  have f103 : Arv Z h102 t kt .byte (2 : Int32) [(.int ((c0.toInt8.toInt32)).toInt8.toInt32), (.int (0 : Int32))] (.int (0 : Int32)) := Arv.set Ar102 qq102 Sz102 Nn102 Hh102 Gg102 (fits_nar_byte _) W102 0 rfl (Nat.le_of_ble_eq_true rfl)
  have f104 : Arv Z h102 v kv .char (2 : Int32) [(.int c0), (.int c1)] (.int (0 : Int32)) := (P0_.keep (Keep.of_wr W102) (ninS ne_v_t nin0))
  obtain ⟨cl105, Ar105, -, Sz105, Nn105, Hh105, -⟩ := id f104
  have hin105 : ¬ ((1 : Int32) < 0 ∨ cl105.slots.size ≤ ((1 : Int32)).toNatClampNeg) := inb_of Sz105 ⟨by decide, by decide⟩
  have hat105 : cl105.slots[((1 : Int32)).toNatClampNeg]? = some (.int c1) := Hh105.at hin105 rfl
  obtain ⟨cl106, Ar106, qq106, Sz106, Nn106, Hh106, Gg106⟩ := id f103
  have hin106 : ¬ ((1 : Int32) < 0 ∨ cl106.slots.size ≤ ((1 : Int32)).toNatClampNeg) := inb_of Sz106 ⟨by decide, by decide⟩
  obtain ⟨T106, h106, X106, e106, W106, st106⟩ := stB X102 hx hZ e102 Ar106 (j := (1 : Int32)) hin106 (g := (mkF mi 31 #[.val (.ref v), .val (.int (1 : Int32)), .val (.ref t), .val (.int (1 : Int32)), .val (.int (2 : Int32)), .val (.int (1 : Int32)), .val (.int c1)] [(.int (c1.toInt8.toInt32)), (.int (1 : Int32)), (.ref t)])) rfl rfl (hb hby d_jdk_52_method_21_code_31)
  have N106 := Fr.snoc X106 N102 g_t
  have f107 : Arv Z h106 t kt .byte (2 : Int32) [(.int ((c0.toInt8.toInt32)).toInt8.toInt32), (.int ((c1.toInt8.toInt32)).toInt8.toInt32)] (.int (0 : Int32)) := Arv.set Ar106 qq106 Sz106 Nn106 Hh106 Gg106 (fits_nar_byte _) W106 1 rfl (Nat.le_of_ble_eq_true rfl)
  have f108 : Arv Z h106 t kt .byte (2 : Int32) [(.int c0.toInt8.toInt32), (.int c1.toInt8.toInt32)] (.int (0 : Int32)) := by simpa only [own_i8] using f107
  obtain ⟨fs, hr, hrun, hended, hW, hsame⟩ := X106.leave (v := some (.int (2 : Int32))) (fun hq => by rw [Bd.returns] at hq; cases hq)
  refine ⟨_, _, pre0 _ ?_, hrun, hended, _, _, rfl, ?_, ⟨_, rfl⟩, hW, hsame.mono (by decide) (by decide)⟩
  · show Steps pg.tables ev below (s₁.setTop (mkF mi 0 #[.val (.ref v), .val (.int (0 : Int32)), .val (.ref t), .val (.int (0 : Int32)), .val (.int (2 : Int32)), .unset, .unset] [])) _
    refine XS.iconst X0.here hx rfl (hb hby d_jdk_52_method_21_code_0) ?_
    show Steps pg.tables ev below (s₁.setTop (mkF mi 1 #[.val (.ref v), .val (.int (0 : Int32)), .val (.ref t), .val (.int (0 : Int32)), .val (.int (2 : Int32)), .unset, .unset] [(.int (0 : Int32))])) _
    refine XS.istore X0.here hx rfl (hb hby d_jdk_52_method_21_code_1) rfl (l' := #[.val (.ref v), .val (.int (0 : Int32)), .val (.ref t), .val (.int (0 : Int32)), .val (.int (2 : Int32)), .val (.int (0 : Int32)), .unset]) rfl ?_
    show Steps pg.tables ev below (s₁.setTop (mkF mi 3 #[.val (.ref v), .val (.int (0 : Int32)), .val (.ref t), .val (.int (0 : Int32)), .val (.int (2 : Int32)), .val (.int (0 : Int32)), .unset] [])) _
    refine XS.iload X0.here hx rfl (hb hby d_jdk_52_method_21_code_3) rfl ?_
    show Steps pg.tables ev below (s₁.setTop (mkF mi 5 #[.val (.ref v), .val (.int (0 : Int32)), .val (.ref t), .val (.int (0 : Int32)), .val (.int (2 : Int32)), .val (.int (0 : Int32)), .unset] [(.int (0 : Int32))])) _
    refine XS.iload X0.here hx rfl (hb hby d_jdk_52_method_21_code_5) rfl ?_
    show Steps pg.tables ev below (s₁.setTop (mkF mi 7 #[.val (.ref v), .val (.int (0 : Int32)), .val (.ref t), .val (.int (0 : Int32)), .val (.int (2 : Int32)), .val (.int (0 : Int32)), .unset] [(.int (2 : Int32)), (.int (0 : Int32))])) _
    refine XS.icmpNo X0.here hx rfl (hb hby d_jdk_52_method_21_code_7) rfl (tlt (by decide : (0 : Int32) < (2 : Int32))).2.1 ?_
    show Steps pg.tables ev below (s₁.setTop (mkF mi 10 #[.val (.ref v), .val (.int (0 : Int32)), .val (.ref t), .val (.int (0 : Int32)), .val (.int (2 : Int32)), .val (.int (0 : Int32)), .unset] [])) _
    refine XS.aloadN X0.here hx rfl (hb hby d_jdk_52_method_21_code_10) rfl rfl ?_
    show Steps pg.tables ev below (s₁.setTop (mkF mi 11 #[.val (.ref v), .val (.int (0 : Int32)), .val (.ref t), .val (.int (0 : Int32)), .val (.int (2 : Int32)), .val (.int (0 : Int32)), .unset] [(.ref v)])) _
    refine XS.iloadN X0.here hx rfl (hb hby d_jdk_52_method_21_code_11) rfl ?_
    show Steps pg.tables ev below (s₁.setTop (mkF mi 12 #[.val (.ref v), .val (.int (0 : Int32)), .val (.ref t), .val (.int (0 : Int32)), .val (.int (2 : Int32)), .val (.int (0 : Int32)), .unset] [(.int (0 : Int32)), (.ref v)])) _
    refine X0.caload hx (j := (0 : Int32)) (v := (.int c0)) (by rw [eE]; exact Ar101.1) (State.isArrayOf_alike hZ.alike Ar101.2.1) Ar101.2.2 hin101 hat101 (g := (mkF mi 12 #[.val (.ref v), .val (.int (0 : Int32)), .val (.ref t), .val (.int (0 : Int32)), .val (.int (2 : Int32)), .val (.int (0 : Int32)), .unset] [(.int (0 : Int32)), (.ref v)])) rfl rfl (hb hby d_jdk_52_method_21_code_12) _ ?_
    show Steps pg.tables ev below (s₁.setTop (mkF mi 13 #[.val (.ref v), .val (.int (0 : Int32)), .val (.ref t), .val (.int (0 : Int32)), .val (.int (2 : Int32)), .val (.int (0 : Int32)), .unset] [(.int c0)])) _
    refine XS.istore X0.here hx rfl (hb hby d_jdk_52_method_21_code_13) rfl (l' := #[.val (.ref v), .val (.int (0 : Int32)), .val (.ref t), .val (.int (0 : Int32)), .val (.int (2 : Int32)), .val (.int (0 : Int32)), .val (.int c0)]) rfl ?_
    show Steps pg.tables ev below (s₁.setTop (mkF mi 15 #[.val (.ref v), .val (.int (0 : Int32)), .val (.ref t), .val (.int (0 : Int32)), .val (.int (2 : Int32)), .val (.int (0 : Int32)), .val (.int c0)] [])) _
    refine XS.iload X0.here hx rfl (hb hby d_jdk_52_method_21_code_15) rfl ?_
    show Steps pg.tables ev below (s₁.setTop (mkF mi 17 #[.val (.ref v), .val (.int (0 : Int32)), .val (.ref t), .val (.int (0 : Int32)), .val (.int (2 : Int32)), .val (.int (0 : Int32)), .val (.int c0)] [(.int c0)])) _
    refine XS.sipush X0.here hx rfl (hb hby d_jdk_52_method_21_code_17) ?_
    show Steps pg.tables ev below (s₁.setTop (mkF mi 20 #[.val (.ref v), .val (.int (0 : Int32)), .val (.ref t), .val (.int (0 : Int32)), .val (.int (2 : Int32)), .val (.int (0 : Int32)), .val (.int c0)] [(.int (255 : Int32)), (.int c0)])) _
    refine XS.icmpYes X0.here hx rfl (pc0 := 20) (pc' := 26) rfl (hb hby d_jdk_52_method_21_code_20) rfl (flt hb0).2.2.2 (by decide) (by decide) ?_
    show Steps pg.tables ev below (s₁.setTop (mkF mi 26 #[.val (.ref v), .val (.int (0 : Int32)), .val (.ref t), .val (.int (0 : Int32)), .val (.int (2 : Int32)), .val (.int (0 : Int32)), .val (.int c0)] [])) _
    refine XS.aloadN X0.here hx rfl (hb hby d_jdk_52_method_21_code_26) rfl rfl ?_
    show Steps pg.tables ev below (s₁.setTop (mkF mi 27 #[.val (.ref v), .val (.int (0 : Int32)), .val (.ref t), .val (.int (0 : Int32)), .val (.int (2 : Int32)), .val (.int (0 : Int32)), .val (.int c0)] [(.ref t)])) _
    refine XS.iloadN X0.here hx rfl (hb hby d_jdk_52_method_21_code_27) rfl ?_
    show Steps pg.tables ev below (s₁.setTop (mkF mi 28 #[.val (.ref v), .val (.int (0 : Int32)), .val (.ref t), .val (.int (0 : Int32)), .val (.int (2 : Int32)), .val (.int (0 : Int32)), .val (.int c0)] [(.int (0 : Int32)), (.ref t)])) _
    refine XS.iload X0.here hx rfl (hb hby d_jdk_52_method_21_code_28) rfl ?_
    show Steps pg.tables ev below (s₁.setTop (mkF mi 30 #[.val (.ref v), .val (.int (0 : Int32)), .val (.ref t), .val (.int (0 : Int32)), .val (.int (2 : Int32)), .val (.int (0 : Int32)), .val (.int c0)] [(.int c0), (.int (0 : Int32)), (.ref t)])) _
    refine XS.i2b X0.here hx rfl (hb hby d_jdk_52_method_21_code_30) rfl ?_
    show Steps pg.tables ev below (s₁.setTop (mkF mi 31 #[.val (.ref v), .val (.int (0 : Int32)), .val (.ref t), .val (.int (0 : Int32)), .val (.int (2 : Int32)), .val (.int (0 : Int32)), .val (.int c0)] [(.int (c0.toInt8.toInt32)), (.int (0 : Int32)), (.ref t)])) _
    refine st102 _ ?_
    show Steps pg.tables ev below (T102.setTop (mkF mi 32 #[.val (.ref v), .val (.int (0 : Int32)), .val (.ref t), .val (.int (0 : Int32)), .val (.int (2 : Int32)), .val (.int (0 : Int32)), .val (.int c0)] [])) _
    refine XS.iinc X102.here hx rfl (hb hby d_jdk_52_method_21_code_32) rfl (l' := #[.val (.ref v), .val (.int (1 : Int32)), .val (.ref t), .val (.int (0 : Int32)), .val (.int (2 : Int32)), .val (.int (0 : Int32)), .val (.int c0)]) rfl ?_
    show Steps pg.tables ev below (T102.setTop (mkF mi 35 #[.val (.ref v), .val (.int (1 : Int32)), .val (.ref t), .val (.int (0 : Int32)), .val (.int (2 : Int32)), .val (.int (0 : Int32)), .val (.int c0)] [])) _
    refine XS.iinc X102.here hx rfl (hb hby d_jdk_52_method_21_code_35) rfl (l' := #[.val (.ref v), .val (.int (1 : Int32)), .val (.ref t), .val (.int (1 : Int32)), .val (.int (2 : Int32)), .val (.int (0 : Int32)), .val (.int c0)]) rfl ?_
    show Steps pg.tables ev below (T102.setTop (mkF mi 38 #[.val (.ref v), .val (.int (1 : Int32)), .val (.ref t), .val (.int (1 : Int32)), .val (.int (2 : Int32)), .val (.int (0 : Int32)), .val (.int c0)] [])) _
    refine XS.iinc X102.here hx rfl (hb hby d_jdk_52_method_21_code_38) rfl (l' := #[.val (.ref v), .val (.int (1 : Int32)), .val (.ref t), .val (.int (1 : Int32)), .val (.int (2 : Int32)), .val (.int (1 : Int32)), .val (.int c0)]) rfl ?_
    show Steps pg.tables ev below (T102.setTop (mkF mi 41 #[.val (.ref v), .val (.int (1 : Int32)), .val (.ref t), .val (.int (1 : Int32)), .val (.int (2 : Int32)), .val (.int (1 : Int32)), .val (.int c0)] [])) _
    refine XS.goto X102.here hx rfl (pc0 := 41) (pc' := 3) rfl (hb hby d_jdk_52_method_21_code_41) (by decide) (by decide) ?_
    show Steps pg.tables ev below (T102.setTop (mkF mi 3 #[.val (.ref v), .val (.int (1 : Int32)), .val (.ref t), .val (.int (1 : Int32)), .val (.int (2 : Int32)), .val (.int (1 : Int32)), .val (.int c0)] [])) _
    refine XS.iload X102.here hx rfl (hb hby d_jdk_52_method_21_code_3) rfl ?_
    show Steps pg.tables ev below (T102.setTop (mkF mi 5 #[.val (.ref v), .val (.int (1 : Int32)), .val (.ref t), .val (.int (1 : Int32)), .val (.int (2 : Int32)), .val (.int (1 : Int32)), .val (.int c0)] [(.int (1 : Int32))])) _
    refine XS.iload X102.here hx rfl (hb hby d_jdk_52_method_21_code_5) rfl ?_
    show Steps pg.tables ev below (T102.setTop (mkF mi 7 #[.val (.ref v), .val (.int (1 : Int32)), .val (.ref t), .val (.int (1 : Int32)), .val (.int (2 : Int32)), .val (.int (1 : Int32)), .val (.int c0)] [(.int (2 : Int32)), (.int (1 : Int32))])) _
    refine XS.icmpNo X102.here hx rfl (hb hby d_jdk_52_method_21_code_7) rfl (tlt (by decide : (1 : Int32) < (2 : Int32))).2.1 ?_
    show Steps pg.tables ev below (T102.setTop (mkF mi 10 #[.val (.ref v), .val (.int (1 : Int32)), .val (.ref t), .val (.int (1 : Int32)), .val (.int (2 : Int32)), .val (.int (1 : Int32)), .val (.int c0)] [])) _
    refine XS.aloadN X102.here hx rfl (hb hby d_jdk_52_method_21_code_10) rfl rfl ?_
    show Steps pg.tables ev below (T102.setTop (mkF mi 11 #[.val (.ref v), .val (.int (1 : Int32)), .val (.ref t), .val (.int (1 : Int32)), .val (.int (2 : Int32)), .val (.int (1 : Int32)), .val (.int c0)] [(.ref v)])) _
    refine XS.iloadN X102.here hx rfl (hb hby d_jdk_52_method_21_code_11) rfl ?_
    show Steps pg.tables ev below (T102.setTop (mkF mi 12 #[.val (.ref v), .val (.int (1 : Int32)), .val (.ref t), .val (.int (1 : Int32)), .val (.int (2 : Int32)), .val (.int (1 : Int32)), .val (.int c0)] [(.int (1 : Int32)), (.ref v)])) _
    refine X102.caload hx (j := (1 : Int32)) (v := (.int c1)) (by rw [e102]; exact Ar105.1) (State.isArrayOf_alike hZ.alike Ar105.2.1) Ar105.2.2 hin105 hat105 (g := (mkF mi 12 #[.val (.ref v), .val (.int (1 : Int32)), .val (.ref t), .val (.int (1 : Int32)), .val (.int (2 : Int32)), .val (.int (1 : Int32)), .val (.int c0)] [(.int (1 : Int32)), (.ref v)])) rfl rfl (hb hby d_jdk_52_method_21_code_12) _ ?_
    show Steps pg.tables ev below (T102.setTop (mkF mi 13 #[.val (.ref v), .val (.int (1 : Int32)), .val (.ref t), .val (.int (1 : Int32)), .val (.int (2 : Int32)), .val (.int (1 : Int32)), .val (.int c0)] [(.int c1)])) _
    refine XS.istore X102.here hx rfl (hb hby d_jdk_52_method_21_code_13) rfl (l' := #[.val (.ref v), .val (.int (1 : Int32)), .val (.ref t), .val (.int (1 : Int32)), .val (.int (2 : Int32)), .val (.int (1 : Int32)), .val (.int c1)]) rfl ?_
    show Steps pg.tables ev below (T102.setTop (mkF mi 15 #[.val (.ref v), .val (.int (1 : Int32)), .val (.ref t), .val (.int (1 : Int32)), .val (.int (2 : Int32)), .val (.int (1 : Int32)), .val (.int c1)] [])) _
    refine XS.iload X102.here hx rfl (hb hby d_jdk_52_method_21_code_15) rfl ?_
    show Steps pg.tables ev below (T102.setTop (mkF mi 17 #[.val (.ref v), .val (.int (1 : Int32)), .val (.ref t), .val (.int (1 : Int32)), .val (.int (2 : Int32)), .val (.int (1 : Int32)), .val (.int c1)] [(.int c1)])) _
    refine XS.sipush X102.here hx rfl (hb hby d_jdk_52_method_21_code_17) ?_
    show Steps pg.tables ev below (T102.setTop (mkF mi 20 #[.val (.ref v), .val (.int (1 : Int32)), .val (.ref t), .val (.int (1 : Int32)), .val (.int (2 : Int32)), .val (.int (1 : Int32)), .val (.int c1)] [(.int (255 : Int32)), (.int c1)])) _
    refine XS.icmpYes X102.here hx rfl (pc0 := 20) (pc' := 26) rfl (hb hby d_jdk_52_method_21_code_20) rfl (flt hb1).2.2.2 (by decide) (by decide) ?_
    show Steps pg.tables ev below (T102.setTop (mkF mi 26 #[.val (.ref v), .val (.int (1 : Int32)), .val (.ref t), .val (.int (1 : Int32)), .val (.int (2 : Int32)), .val (.int (1 : Int32)), .val (.int c1)] [])) _
    refine XS.aloadN X102.here hx rfl (hb hby d_jdk_52_method_21_code_26) rfl rfl ?_
    show Steps pg.tables ev below (T102.setTop (mkF mi 27 #[.val (.ref v), .val (.int (1 : Int32)), .val (.ref t), .val (.int (1 : Int32)), .val (.int (2 : Int32)), .val (.int (1 : Int32)), .val (.int c1)] [(.ref t)])) _
    refine XS.iloadN X102.here hx rfl (hb hby d_jdk_52_method_21_code_27) rfl ?_
    show Steps pg.tables ev below (T102.setTop (mkF mi 28 #[.val (.ref v), .val (.int (1 : Int32)), .val (.ref t), .val (.int (1 : Int32)), .val (.int (2 : Int32)), .val (.int (1 : Int32)), .val (.int c1)] [(.int (1 : Int32)), (.ref t)])) _
    refine XS.iload X102.here hx rfl (hb hby d_jdk_52_method_21_code_28) rfl ?_
    show Steps pg.tables ev below (T102.setTop (mkF mi 30 #[.val (.ref v), .val (.int (1 : Int32)), .val (.ref t), .val (.int (1 : Int32)), .val (.int (2 : Int32)), .val (.int (1 : Int32)), .val (.int c1)] [(.int c1), (.int (1 : Int32)), (.ref t)])) _
    refine XS.i2b X102.here hx rfl (hb hby d_jdk_52_method_21_code_30) rfl ?_
    show Steps pg.tables ev below (T102.setTop (mkF mi 31 #[.val (.ref v), .val (.int (1 : Int32)), .val (.ref t), .val (.int (1 : Int32)), .val (.int (2 : Int32)), .val (.int (1 : Int32)), .val (.int c1)] [(.int (c1.toInt8.toInt32)), (.int (1 : Int32)), (.ref t)])) _
    refine st106 _ ?_
    show Steps pg.tables ev below (T106.setTop (mkF mi 32 #[.val (.ref v), .val (.int (1 : Int32)), .val (.ref t), .val (.int (1 : Int32)), .val (.int (2 : Int32)), .val (.int (1 : Int32)), .val (.int c1)] [])) _
    refine XS.iinc X106.here hx rfl (hb hby d_jdk_52_method_21_code_32) rfl (l' := #[.val (.ref v), .val (.int (2 : Int32)), .val (.ref t), .val (.int (1 : Int32)), .val (.int (2 : Int32)), .val (.int (1 : Int32)), .val (.int c1)]) rfl ?_
    show Steps pg.tables ev below (T106.setTop (mkF mi 35 #[.val (.ref v), .val (.int (2 : Int32)), .val (.ref t), .val (.int (1 : Int32)), .val (.int (2 : Int32)), .val (.int (1 : Int32)), .val (.int c1)] [])) _
    refine XS.iinc X106.here hx rfl (hb hby d_jdk_52_method_21_code_35) rfl (l' := #[.val (.ref v), .val (.int (2 : Int32)), .val (.ref t), .val (.int (2 : Int32)), .val (.int (2 : Int32)), .val (.int (1 : Int32)), .val (.int c1)]) rfl ?_
    show Steps pg.tables ev below (T106.setTop (mkF mi 38 #[.val (.ref v), .val (.int (2 : Int32)), .val (.ref t), .val (.int (2 : Int32)), .val (.int (2 : Int32)), .val (.int (1 : Int32)), .val (.int c1)] [])) _
    refine XS.iinc X106.here hx rfl (hb hby d_jdk_52_method_21_code_38) rfl (l' := #[.val (.ref v), .val (.int (2 : Int32)), .val (.ref t), .val (.int (2 : Int32)), .val (.int (2 : Int32)), .val (.int (2 : Int32)), .val (.int c1)]) rfl ?_
    show Steps pg.tables ev below (T106.setTop (mkF mi 41 #[.val (.ref v), .val (.int (2 : Int32)), .val (.ref t), .val (.int (2 : Int32)), .val (.int (2 : Int32)), .val (.int (2 : Int32)), .val (.int c1)] [])) _
    refine XS.goto X106.here hx rfl (pc0 := 41) (pc' := 3) rfl (hb hby d_jdk_52_method_21_code_41) (by decide) (by decide) ?_
    show Steps pg.tables ev below (T106.setTop (mkF mi 3 #[.val (.ref v), .val (.int (2 : Int32)), .val (.ref t), .val (.int (2 : Int32)), .val (.int (2 : Int32)), .val (.int (2 : Int32)), .val (.int c1)] [])) _
    refine XS.iload X106.here hx rfl (hb hby d_jdk_52_method_21_code_3) rfl ?_
    show Steps pg.tables ev below (T106.setTop (mkF mi 5 #[.val (.ref v), .val (.int (2 : Int32)), .val (.ref t), .val (.int (2 : Int32)), .val (.int (2 : Int32)), .val (.int (2 : Int32)), .val (.int c1)] [(.int (2 : Int32))])) _
    refine XS.iload X106.here hx rfl (hb hby d_jdk_52_method_21_code_5) rfl ?_
    show Steps pg.tables ev below (T106.setTop (mkF mi 7 #[.val (.ref v), .val (.int (2 : Int32)), .val (.ref t), .val (.int (2 : Int32)), .val (.int (2 : Int32)), .val (.int (2 : Int32)), .val (.int c1)] [(.int (2 : Int32)), (.int (2 : Int32))])) _
    refine XS.icmpYes X106.here hx rfl (pc0 := 7) (pc' := 44) rfl (hb hby d_jdk_52_method_21_code_7) rfl (flt (fun q => absurd q (by simp [Int32.lt_irrefl]) : ¬ ((2 : Int32) < (2 : Int32)))).2.1 (by decide) (by decide) ?_
    show Steps pg.tables ev below (T106.setTop (mkF mi 44 #[.val (.ref v), .val (.int (2 : Int32)), .val (.ref t), .val (.int (2 : Int32)), .val (.int (2 : Int32)), .val (.int (2 : Int32)), .val (.int c1)] [])) _
    refine XS.iload X106.here hx rfl (hb hby d_jdk_52_method_21_code_44) rfl ?_
    show Steps pg.tables ev below (T106.setTop (mkF mi 46 #[.val (.ref v), .val (.int (2 : Int32)), .val (.ref t), .val (.int (2 : Int32)), .val (.int (2 : Int32)), .val (.int (2 : Int32)), .val (.int c1)] [(.int (2 : Int32))])) _
    exact retI X106 hx Bd.returns (hb hby d_jdk_52_method_21_code_46) hr
  · show Q_cpd2 Z v t kv kt c0 c1 hE n0 _ T106.heap _
    rw [e106]
    exact ⟨rfl, N106, (((Keep.refl hE [t]).trans (Keep.of_wr W102) (allS (Or.inl (List.mem_of_getElem? (i := 0) rfl)) all0)).trans (Keep.of_wr W106) (allS (Or.inl (List.mem_of_getElem? (i := 0) rfl)) all0)), f108⟩
theorem ef_cpc2 (mi : MethodId) (v : Addr) : entryFrame mi #[(.ref v), (.int (0 : Int32)), (.int (2 : Int32))] 6 = mkF mi 0 #[.val (.ref v), .val (.int (0 : Int32)), .val (.int (2 : Int32)), .unset, .unset, .unset] [] := by first | (simp [entryFrame, mkF, argsToLocals, Value.category]; done) | rfl
def Q_cpc2 (Z : State) (v : Addr) (kv : ClassId) (c0 : Int32) (c1 : Int32) (hE : Heap) (n0 : Nat) (vv : Option Value) (hh : Heap) (LL : List Loc) : Prop := ∃ t : Addr, ∃ kt : ClassId, (vv = some (.ref t)) ∧ (Fr n0 LL) ∧ (Keep hE hh []) ∧ (hE.size ≤ t) ∧ (Arv Z hh t kt .byte (2 : Int32) [(.int c0.toInt8.toInt32), (.int c1.toInt8.toInt32)] (.int (0 : Int32)))
set_option maxRecDepth 65536 in
set_option maxHeartbeats 40000000 in
theorem rm_cpc2 (la : Launch) (Z : State) (a0 : Array Value) (hw : ∀ d ∈ tables_1, d.before a0 Z = true) (ws : List Jvm.Cond) (v : Addr) (kv : ClassId) (c0 : Int32) (c1 : Int32) (hE : Heap) (n0 : Nat) (O : Old Z n0 hE) (P0_ : Arv Z hE v kv .char (2 : Int32) [(.int c0), (.int c1)] (.int (0 : Int32))) (hb0 : ¬ ((255 : Int32) < c0)) (hb1 : ¬ ((255 : Int32) < c1)) :
    MetFree la mn3 (head1 (Jvm.Cond.code mn3 jdk_52_method_16_code 6 (some (.array .byte)) :: ws) ({ frames := 1, cells := 1, slots := 2, locals := 18 } : Room)) (fun aa UU => aa = #[(.ref v), (.int (0 : Int32)), (.int (2 : Int32))] ∧ Z.Warmed39 UU.vm ∧ UU.heap = hE) (fun _ _ _ _ _ => True) (fun _ UU oo UV => ∃ vv LL, oo = .returned vv ∧ Q_cpc2 Z v kv c0 c1 hE n0 vv UV.heap LL ∧ FrameEnd UU oo UV LL ({ frames := 1, cells := 1, slots := 2, locals := 18 } : Room).cells ({ frames := 1, cells := 1, slots := 2, locals := 18 } : Room).slots) := by
  refine MetFree.of_bodySF (plainFor_of_name pn_java_lang_StringUTF16) hisR ?_
  intro pg ev sb mi gs below me cd s₁ Bd hml0 hPt hKt
  obtain ⟨rfl, hZ, hh⟩ := hPt
  have hx := Bd.exec
  have hby := Bd.bytes
  have hml : cd.maxLocals = 6 := hml0
  have hown : sb.vm.findClass "java/lang/StringUTF16" = some mi.cls := findClass_of_methodNamed Bd.named
  have hnm := (name_of_methodNamed Bd.named Bd.method).1
  have X0 : Stand pg la ev ({ frames := 1, cells := 1, slots := 2, locals := 18 } : Room) sb mi #[(.ref v), (.int (0 : Int32)), (.int (2 : Int32))] below me cd s₁ [] 0 0 := Stand.of_body Bd
  have eE : s₁.heap = hE := by rw [← hh, Bd.state]; rfl
  have N0 := Fr.nil n0
  have pre0 : ∀ tt, Steps pg.tables ev below (s₁.setTop (mkF mi 0 #[.val (.ref v), .val (.int (0 : Int32)), .val (.int (2 : Int32)), .unset, .unset, .unset] [])) tt → Steps pg.tables ev below (s₁.setTop (entryFrame mi #[(.ref v), (.int (0 : Int32)), (.int (2 : Int32))] 6)) tt := fun tt kk => castTop (ef_cpc2 mi v) kk
  obtain ⟨T101, h101, k101, X101, e101, E101, A101, st101⟩ := newP (aty := .byte) X0 hx hZ (wd26 hw) eE (g := (mkF mi 1 #[.val (.ref v), .val (.int (0 : Int32)), .val (.int (2 : Int32)), .unset, .unset, .unset] [(.int (2 : Int32))])) rfl (hb hby d_jdk_52_method_16_code_1) rfl (by decide) (cap := 2) (by decide) (by decide) (by decide) (by decide)
  obtain ⟨b101, q101⟩ : ∃ z, z = hE.size := ⟨_, rfl⟩
  rw [← q101] at A101 st101
  have f102 : Arv Z h101 b101 k101 .byte (2 : Int32) [(.int (0 : Int32)), (.int (0 : Int32))] (.int (0 : Int32)) := (Arv.new A101 (by decide)).pad (pad_rep [] (.int (0 : Int32)) 2)
  have O103 : Old Z n0 h101 := (O.ext E101)
  have f104 : Arv Z h101 v kv .char (2 : Int32) [(.int c0), (.int c1)] (.int (0 : Int32)) := (P0_.ext E101)
  have g_b101 : n0 ≤ b101 := Nat.le_trans (Nat.le_trans (Nat.le_of_eq O.1.symm) O.2.1) (Nat.le_of_eq q101.symm)
  have ne_v_b101 : v ≠ b101 := Nat.ne_of_lt (Nat.lt_of_lt_of_le P0_.lt (Nat.le_trans (Nat.le_refl _) (Nat.le_of_eq q101.symm)))
  obtain ⟨v105, _, ⟨T105, L105, k105, n105⟩, -, X105, ⟨Lc105, hQ105, l105, y105, z105⟩, st105⟩ := Jvm.LawKit.callS X101 hx (y := mn2) hown (mvT hZ (wd76 hw)) (mvT hZ (wd77 hw)) (mvT hZ (wd74 hw)) (mvT hZ (wd78 hw)) (by decide) (backOf (W := 0) (rm_cpd2 la Z a0 hw [] v b101 kv k101 c0 c1 h101 n0 O103 f104 f102 g_b101 ne_v_b101 (hb0 : ¬ ((255 : Int32) < c0)) (hb1 : ¬ ((255 : Int32) < c1))) hZ (wd78 hw) (wd74 hw) (by decide) (by decide)) (g := (mkF mi 9 #[.val (.ref v), .val (.int (0 : Int32)), .val (.int (2 : Int32)), .val (.ref b101), .unset, .unset] [(.int (2 : Int32)), (.int (0 : Int32)), (.ref b101), (.int (0 : Int32)), (.ref v)])) rfl (by rw [hml]; rfl) (argsL := [(.ref v), (.int (0 : Int32)), (.ref b101), (.int (0 : Int32)), (.int (2 : Int32))]) (rest := []) (lenOf pd_0 rfl) rfl (by show 2 * 0 + _ ≤ _; exact Nat.le_of_eq rfl) (hb hby d_jdk_52_method_16_code_9) (fun _ _ => ⟨rfl, e101, (by decide : 1 + 0 ≤ _), (by decide : 2 + 0 ≤ _)⟩)
  dsimp only [Pt.U, Pt.locs, Pt.cells, Pt.slots] at X105 l105 y105 z105 st105 hQ105
  subst l105 y105 z105
  obtain ⟨rfl, Nq105, Kq105, r105_0⟩ := hQ105
  have N105 := Fr.app N0 Nq105
  obtain ⟨fs, hr, hrun, hended, hW, hsame⟩ := X105.leave (v := some (.ref b101)) (fun hq => by rw [Bd.returns] at hq; cases hq)
  refine ⟨_, _, pre0 _ ?_, hrun, hended, _, _, rfl, ?_, ⟨_, rfl⟩, hW, hsame.mono (by decide) (by decide)⟩
  · show Steps pg.tables ev below (s₁.setTop (mkF mi 0 #[.val (.ref v), .val (.int (0 : Int32)), .val (.int (2 : Int32)), .unset, .unset, .unset] [])) _
    refine XS.iloadN X0.here hx rfl (hb hby d_jdk_52_method_16_code_0) rfl ?_
    show Steps pg.tables ev below (s₁.setTop (mkF mi 1 #[.val (.ref v), .val (.int (0 : Int32)), .val (.int (2 : Int32)), .unset, .unset, .unset] [(.int (2 : Int32))])) _
    refine st101 _ ?_
    show Steps pg.tables ev below (T101.setTop (mkF mi 3 #[.val (.ref v), .val (.int (0 : Int32)), .val (.int (2 : Int32)), .unset, .unset, .unset] [(.ref b101)])) _
    refine XS.astoreN X101.here hx rfl (hb hby d_jdk_52_method_16_code_3) rfl rfl (l' := #[.val (.ref v), .val (.int (0 : Int32)), .val (.int (2 : Int32)), .val (.ref b101), .unset, .unset]) rfl ?_
    show Steps pg.tables ev below (T101.setTop (mkF mi 4 #[.val (.ref v), .val (.int (0 : Int32)), .val (.int (2 : Int32)), .val (.ref b101), .unset, .unset] [])) _
    refine XS.aloadN X101.here hx rfl (hb hby d_jdk_52_method_16_code_4) rfl rfl ?_
    show Steps pg.tables ev below (T101.setTop (mkF mi 5 #[.val (.ref v), .val (.int (0 : Int32)), .val (.int (2 : Int32)), .val (.ref b101), .unset, .unset] [(.ref v)])) _
    refine XS.iloadN X101.here hx rfl (hb hby d_jdk_52_method_16_code_5) rfl ?_
    show Steps pg.tables ev below (T101.setTop (mkF mi 6 #[.val (.ref v), .val (.int (0 : Int32)), .val (.int (2 : Int32)), .val (.ref b101), .unset, .unset] [(.int (0 : Int32)), (.ref v)])) _
    refine XS.aloadN X101.here hx rfl (hb hby d_jdk_52_method_16_code_6) rfl rfl ?_
    show Steps pg.tables ev below (T101.setTop (mkF mi 7 #[.val (.ref v), .val (.int (0 : Int32)), .val (.int (2 : Int32)), .val (.ref b101), .unset, .unset] [(.ref b101), (.int (0 : Int32)), (.ref v)])) _
    refine XS.iconst X101.here hx rfl (hb hby d_jdk_52_method_16_code_7) ?_
    show Steps pg.tables ev below (T101.setTop (mkF mi 8 #[.val (.ref v), .val (.int (0 : Int32)), .val (.int (2 : Int32)), .val (.ref b101), .unset, .unset] [(.int (0 : Int32)), (.ref b101), (.int (0 : Int32)), (.ref v)])) _
    refine XS.iloadN X101.here hx rfl (hb hby d_jdk_52_method_16_code_8) rfl ?_
    show Steps pg.tables ev below (T101.setTop (mkF mi 9 #[.val (.ref v), .val (.int (0 : Int32)), .val (.int (2 : Int32)), .val (.ref b101), .unset, .unset] [(.int (2 : Int32)), (.int (0 : Int32)), (.ref b101), (.int (0 : Int32)), (.ref v)])) _
    refine st105 _ ?_
    show Steps pg.tables ev below (T105.setTop (mkF mi 12 #[.val (.ref v), .val (.int (0 : Int32)), .val (.int (2 : Int32)), .val (.ref b101), .unset, .unset] [(.int (2 : Int32))])) _
    refine XS.istore X105.here hx rfl (hb hby d_jdk_52_method_16_code_12) rfl (l' := #[.val (.ref v), .val (.int (0 : Int32)), .val (.int (2 : Int32)), .val (.ref b101), .val (.int (2 : Int32)), .unset]) rfl ?_
    show Steps pg.tables ev below (T105.setTop (mkF mi 14 #[.val (.ref v), .val (.int (0 : Int32)), .val (.int (2 : Int32)), .val (.ref b101), .val (.int (2 : Int32)), .unset] [])) _
    refine XS.iload X105.here hx rfl (hb hby d_jdk_52_method_16_code_14) rfl ?_
    show Steps pg.tables ev below (T105.setTop (mkF mi 16 #[.val (.ref v), .val (.int (0 : Int32)), .val (.int (2 : Int32)), .val (.ref b101), .val (.int (2 : Int32)), .unset] [(.int (2 : Int32))])) _
    refine XS.iloadN X105.here hx rfl (hb hby d_jdk_52_method_16_code_16) rfl ?_
    show Steps pg.tables ev below (T105.setTop (mkF mi 17 #[.val (.ref v), .val (.int (0 : Int32)), .val (.int (2 : Int32)), .val (.ref b101), .val (.int (2 : Int32)), .unset] [(.int (2 : Int32)), (.int (2 : Int32))])) _
    refine XS.icmpYes X105.here hx rfl (pc0 := 17) (pc' := 57) rfl (hb hby d_jdk_52_method_16_code_17) rfl (teq (rfl : (2 : Int32) = (2 : Int32))).1 (by decide) (by decide) ?_
    show Steps pg.tables ev below (T105.setTop (mkF mi 57 #[.val (.ref v), .val (.int (0 : Int32)), .val (.int (2 : Int32)), .val (.ref b101), .val (.int (2 : Int32)), .unset] [])) _
    refine XS.aloadN X105.here hx rfl (hb hby d_jdk_52_method_16_code_57) rfl rfl ?_
    show Steps pg.tables ev below (T105.setTop (mkF mi 58 #[.val (.ref v), .val (.int (0 : Int32)), .val (.int (2 : Int32)), .val (.ref b101), .val (.int (2 : Int32)), .unset] [(.ref b101)])) _
    jvm_step X105.here [X105.here.top, hx, (hb hby d_jdk_52_method_16_code_58), X105.method', Bd.returns, Value.isRef, FieldType.isReference]
    first | (intro acts; rw [hr _ acts rfl rfl rfl]) | rw [hr _ _ rfl rfl rfl]
    exact Steps.refl _
  · show Q_cpc2 Z v kv c0 c1 hE n0 _ T105.heap _
    exact ⟨b101, k101, rfl, N105, (((Keep.refl hE []).ext E101).trans Kq105 (allS (Or.inr (Nat.le_of_eq q101.symm)) all0)), (Nat.le_of_eq q101.symm), r105_0⟩
theorem ef_siv2 (mi : MethodId) (x : Addr) (v : Addr) : entryFrame mi #[(.ref x), (.ref v), (.int (0 : Int32)), (.int (2 : Int32)), .null] 6 = mkF mi 0 #[.val (.ref x), .val (.ref v), .val (.int (0 : Int32)), .val (.int (2 : Int32)), .val .null, .unset] [] := by first | (simp [entryFrame, mkF, argsToLocals, Value.category]; done) | rfl
def Q_siv2 (Z : State) (x : Addr) (v : Addr) (kv : ClassId) (zc : Int32) (c0 : Int32) (c1 : Int32) (hE : Heap) (n0 : Nat) (vv : Option Value) (hh : Heap) (LL : List Loc) : Prop := ∃ t : Addr, (vv = none) ∧ (Fr n0 LL) ∧ (Keep hE hh [x]) ∧ (hE.size ≤ t) ∧ (LStr Z hh x t ([c0, c1] : List Int32))
set_option maxRecDepth 65536 in
set_option maxHeartbeats 40000000 in
theorem rm_siv2 (la : Launch) (Z : State) (a0 : Array Value) (hw : ∀ d ∈ tables_1, d.before a0 Z = true) (ws : List Jvm.Cond) (x : Addr) (v : Addr) (kv : ClassId) (zc : Int32) (c0 : Int32) (c1 : Int32) (hE : Heap) (n0 : Nat) (O : Old Z n0 hE) (P0_ : Exa Z hE x "java/lang/String") (P1_ : Fld Z hE x "java/lang/String" "value" "[B" .null) (P2_ : Fld Z hE x "java/lang/String" "coder" "B" (.int (0 : Int32))) (P3_ : Arv Z hE v kv .char (2 : Int32) [(.int c0), (.int c1)] (.int (0 : Int32))) (D0_ : Sta Z Z.heap "java/lang/String" "COMPACT_STRINGS" "Z" (.int zc)) (g_x : n0 ≤ x) (ne_v_x : v ≠ x) (hb0 : ¬ ((255 : Int32) < c0)) (hb1 : ¬ ((255 : Int32) < c1)) (hn0 : ¬ (c0 < (0 : Int32))) (hn1 : ¬ (c1 < (0 : Int32))) (hzc : ¬ (zc = (0 : Int32))) :
    MetFree la mn4 (head1 (Jvm.Cond.code mn4 jdk_42_method_149_code 6 none :: ws) ({ frames := 2, cells := 1, slots := 2, locals := 35 } : Room)) (fun aa UU => aa = #[(.ref x), (.ref v), (.int (0 : Int32)), (.int (2 : Int32)), .null] ∧ Z.Warmed39 UU.vm ∧ UU.heap = hE) (fun _ _ _ _ _ => True) (fun _ UU oo UV => ∃ vv LL, oo = .returned vv ∧ Q_siv2 Z x v kv zc c0 c1 hE n0 vv UV.heap LL ∧ FrameEnd UU oo UV LL ({ frames := 2, cells := 1, slots := 2, locals := 35 } : Room).cells ({ frames := 2, cells := 1, slots := 2, locals := 35 } : Room).slots) := by
  refine MetFree.of_bodySF (plainFor_of_name pn_java_lang_String) hisR ?_
  intro pg ev sb mi gs below me cd s₁ Bd hml0 hPt hKt
  obtain ⟨rfl, hZ, hh⟩ := hPt
  have hx := Bd.exec
  have hby := Bd.bytes
  have hml : cd.maxLocals = 6 := hml0
  have hown : sb.vm.findClass "java/lang/String" = some mi.cls := findClass_of_methodNamed Bd.named
  have hnm := (name_of_methodNamed Bd.named Bd.method).1
  have X0 : Stand pg la ev ({ frames := 2, cells := 1, slots := 2, locals := 35 } : Room) sb mi #[(.ref x), (.ref v), (.int (0 : Int32)), (.int (2 : Int32)), .null] below me cd s₁ [] 0 0 := Stand.of_body Bd
  have eE : s₁.heap = hE := by rw [← hh, Bd.state]; rfl
  have N0 := Fr.nil n0
  have pre0 : ∀ tt, Steps pg.tables ev below (s₁.setTop (mkF mi 0 #[.val (.ref x), .val (.ref v), .val (.int (0 : Int32)), .val (.int (2 : Int32)), .val .null, .unset] [])) tt → Steps pg.tables ev below (s₁.setTop (entryFrame mi #[(.ref x), (.ref v), (.int (0 : Int32)), (.int (2 : Int32)), .null] 6)) tt := fun tt kk => castTop (ef_siv2 mi x v) kk
  obtain ⟨T101, X101, e101, st101⟩ := initO X0 hx hZ hown (wd22 hw) (wd23 hw) (wd24 hw) eE (g := (mkF mi 1 #[.val (.ref x), .val (.ref v), .val (.int (0 : Int32)), .val (.int (2 : Int32)), .val .null, .unset] [(.ref x)])) rfl (by rw [hml]; rfl) rfl (hb hby d_jdk_42_method_149_code_1) (by decide) (W := 0) (by show 2 * 0 + _ ≤ _; exact Nat.le_of_eq rfl) (by decide)
  obtain ⟨T102, X102, e102, st102⟩ := getS2 X101 hx hZ hown (host := "") (Or.inl (wd61 hw)) Via.refl e101 (D0_.ext O.2) (g := (mkF mi 27 #[.val (.ref x), .val (.ref v), .val (.int (0 : Int32)), .val (.int (2 : Int32)), .val .null, .unset] [])) rfl (hb hby d_jdk_42_method_149_code_27)
  obtain ⟨v103, _, ⟨T103, L103, k103, n103⟩, -, X103, ⟨Lc103, hQ103, l103, y103, z103⟩, st103⟩ := Jvm.LawKit.callS X102 hx (y := mn3) hown (mvT hZ (wd72 hw)) (mvT hZ (wd73 hw)) (mvT hZ (wd74 hw)) (mvT hZ (wd75 hw)) (by decide) (backOf (W := 0) (rm_cpc2 la Z a0 hw [] v kv c0 c1 hE n0 O P3_ (hb0 : ¬ ((255 : Int32) < c0)) (hb1 : ¬ ((255 : Int32) < c1))) hZ (wd75 hw) (wd74 hw) (by decide) (by decide)) (g := (mkF mi 36 #[.val (.ref x), .val (.ref v), .val (.int (0 : Int32)), .val (.int (2 : Int32)), .val .null, .unset] [(.int (2 : Int32)), (.int (0 : Int32)), (.ref v)])) rfl (by rw [hml]; rfl) (argsL := [(.ref v), (.int (0 : Int32)), (.int (2 : Int32))]) (rest := []) (lenOf pd_1 rfl) rfl (by show 2 * 0 + _ ≤ _; exact Nat.le_of_eq rfl) (hb hby d_jdk_42_method_149_code_36) (fun _ _ => ⟨rfl, e102, (by decide : 0 + 1 ≤ _), (by decide : 0 + 2 ≤ _)⟩)
  dsimp only [Pt.U, Pt.locs, Pt.cells, Pt.slots] at X103 l103 y103 z103 st103 hQ103
  subst l103 y103 z103
  obtain ⟨t_103, kt_103, rfl, Nq103, Kq103, fr_t_103, r103_0⟩ := hQ103
  have N103 := Fr.app N0 Nq103
  have O104 : Old Z n0 T103.heap := (O.keep Kq103 all0)
  obtain ⟨v105, _, ⟨T105, L105, k105, n105⟩, -, X105, ⟨Lc105, hQ105, l105, y105, z105⟩, st105⟩ := Jvm.LawKit.callS X103 hx (y := mn1) hown (mvT hZ (wd79 hw)) (mvT hZ (wd80 hw)) (mvT hZ (wd74 hw)) (mvT hZ (wd81 hw)) (by decide) (backOf (W := 1) (rm_cfal la Z a0 hw [] t_103 (2 : Int32) kt_103 [(.int c0.toInt8.toInt32), (.int c1.toInt8.toInt32)] T103.heap n0 O104 r103_0) hZ (wd81 hw) (wd74 hw) (by decide) (by decide)) (g := (mkF mi 45 #[.val (.ref x), .val (.ref v), .val (.int (0 : Int32)), .val (.int (2 : Int32)), .val .null, .val (.ref t_103)] [(.int (2 : Int32)), (.ref t_103), (.ref x)])) rfl (by rw [hml]; rfl) (argsL := [(.ref t_103), (.int (2 : Int32))]) (rest := [(.ref x)]) (lenOf pd_2 rfl) rfl (by show 2 * 0 + _ ≤ _; exact Nat.le_of_eq rfl) (hb hby d_jdk_42_method_149_code_45) (fun _ _ => ⟨rfl, rfl, (by decide : 1 + 0 ≤ _), (by decide : 2 + 0 ≤ _)⟩)
  dsimp only [Pt.U, Pt.locs, Pt.cells, Pt.slots] at X105 l105 y105 z105 st105 hQ105
  subst l105 y105 z105
  obtain ⟨rfl, Nq105, ek105⟩ := hQ105
  have N105 := Fr.app N103 Nq105
  have f106 : Exa Z T103.heap x "java/lang/String" := (P0_.keep Kq103)
  have f107 : Fld Z T103.heap x "java/lang/String" "coder" "B" (.int (0 : Int32)) := (P2_.keep Kq103 nin0)
  obtain ⟨T108, h108, X108, e108, W108, st108⟩ := putFN X105 hx hZ hown (wd32 hw) Via.refl ek105 f107 f106 (Or.inr ⟨(wd28 hw), rfl, hnm⟩) (wd12 hw) (ty := .byte) (v' := (.int (0 : Int32))) (by decide) rfl rfl (g := (mkF mi 48 #[.val (.ref x), .val (.ref v), .val (.int (0 : Int32)), .val (.int (2 : Int32)), .val .null, .val (.ref t_103)] [(.int (0 : Int32)), (.ref x)])) rfl rfl (hb hby d_jdk_42_method_149_code_48)
  have N108 := Fr.snoc X108 N105 g_x
  have f109 : Fld Z h108 x "java/lang/String" "coder" "B" (.int (0 : Int32)) := f107.same W108
  have f110 : Exa Z h108 x "java/lang/String" := (f106.keep (Keep.of_wr W108))
  have f111 : Fld Z h108 x "java/lang/String" "value" "[B" .null := ((P1_.keep Kq103 nin0).other W108 (Or.inr (slot_ne (Or.inr (wd27 hw)) (Or.inr (wd28 hw)) (by decide) (t := (.array .byte)) (t' := .byte) (by decide) (by decide))))
  obtain ⟨T112, h112, X112, e112, W112, st112⟩ := putF X108 hx hZ hown (host := "") (Or.inl (wd31 hw)) Via.refl e108 f111 f110 (Or.inr ⟨(wd27 hw), rfl, hnm⟩) (wd12 hw) (ty := (.array .byte)) (by decide) rfl rfl (g := (mkF mi 54 #[.val (.ref x), .val (.ref v), .val (.int (0 : Int32)), .val (.int (2 : Int32)), .val .null, .val (.ref t_103)] [(.ref t_103), (.ref x)])) rfl rfl (hb hby d_jdk_42_method_149_code_54)
  have N112 := Fr.snoc X112 N108 g_x
  have f113 : Fld Z h112 x "java/lang/String" "value" "[B" (.ref t_103) := f111.same W112
  have f114 : Exa Z h112 x "java/lang/String" := (f110.keep (Keep.of_wr W112))
  have f115 : Fld Z h112 x "java/lang/String" "coder" "B" (.int (0 : Int32)) := (f109.other W112 (Or.inr (slot_ne (Or.inr (wd28 hw)) (Or.inr (wd27 hw)) (by decide) (t := .byte) (t' := (.array .byte)) (by decide) (by decide))))
  have ne_x_t_103 : x ≠ t_103 := Nat.ne_of_lt (Nat.lt_of_lt_of_le P0_.lt (Nat.le_trans (Nat.le_refl _) fr_t_103))
  have f116 : Arv Z h112 t_103 kt_103 .byte (2 : Int32) [(.int c0.toInt8.toInt32), (.int c1.toInt8.toInt32)] (.int (0 : Int32)) := ((r103_0.keep (Keep.of_wr W108) (ninS (Ne.symm ne_x_t_103) nin0)).keep (Keep.of_wr W112) (ninS (Ne.symm ne_x_t_103) nin0))
  have s117 : LStr Z h112 x t_103 ([c0, c1] : List Int32) := ⟨f114, f113, f115, ⟨_, f116⟩, (by intro c hc; simp only [List.mem_cons, List.not_mem_nil, or_false] at hc; rcases hc with rfl | rfl <;> exact ⟨by assumption, by assumption⟩), (Nat.le_of_ble_eq_true rfl)⟩
  obtain ⟨fs, hr, hrun, hended, hW, hsame⟩ := X112.leave (v := none) (fun _ => rfl)
  refine ⟨_, _, pre0 _ ?_, hrun, hended, _, _, rfl, ?_, ⟨_, rfl⟩, hW, hsame.mono (by decide) (by decide)⟩
  · show Steps pg.tables ev below (s₁.setTop (mkF mi 0 #[.val (.ref x), .val (.ref v), .val (.int (0 : Int32)), .val (.int (2 : Int32)), .val .null, .unset] [])) _
    refine XS.aloadN X0.here hx rfl (hb hby d_jdk_42_method_149_code_0) rfl rfl ?_
    show Steps pg.tables ev below (s₁.setTop (mkF mi 1 #[.val (.ref x), .val (.ref v), .val (.int (0 : Int32)), .val (.int (2 : Int32)), .val .null, .unset] [(.ref x)])) _
    refine st101 _ ?_
    show Steps pg.tables ev below (T101.setTop (mkF mi 4 #[.val (.ref x), .val (.ref v), .val (.int (0 : Int32)), .val (.int (2 : Int32)), .val .null, .unset] [])) _
    refine XS.iloadN X101.here hx rfl (hb hby d_jdk_42_method_149_code_4) rfl ?_
    show Steps pg.tables ev below (T101.setTop (mkF mi 5 #[.val (.ref x), .val (.ref v), .val (.int (0 : Int32)), .val (.int (2 : Int32)), .val .null, .unset] [(.int (2 : Int32))])) _
    refine XS.ifYes X101.here hx rfl (pc0 := 5) (pc' := 27) rfl (hb hby d_jdk_42_method_149_code_5) rfl ((if0 _ _).trans (feq (by decide : ¬ ((2 : Int32) = (0 : Int32)))).2) (by decide) (by decide) ?_
    show Steps pg.tables ev below (T101.setTop (mkF mi 27 #[.val (.ref x), .val (.ref v), .val (.int (0 : Int32)), .val (.int (2 : Int32)), .val .null, .unset] [])) _
    refine st102 _ ?_
    show Steps pg.tables ev below (T102.setTop (mkF mi 30 #[.val (.ref x), .val (.ref v), .val (.int (0 : Int32)), .val (.int (2 : Int32)), .val .null, .unset] [(.int zc)])) _
    refine XS.ifNo X102.here hx rfl (hb hby d_jdk_42_method_149_code_30) rfl ((if0 _ _).trans (feq hzc).1) ?_
    show Steps pg.tables ev below (T102.setTop (mkF mi 33 #[.val (.ref x), .val (.ref v), .val (.int (0 : Int32)), .val (.int (2 : Int32)), .val .null, .unset] [])) _
    refine XS.aloadN X102.here hx rfl (hb hby d_jdk_42_method_149_code_33) rfl rfl ?_
    show Steps pg.tables ev below (T102.setTop (mkF mi 34 #[.val (.ref x), .val (.ref v), .val (.int (0 : Int32)), .val (.int (2 : Int32)), .val .null, .unset] [(.ref v)])) _
    refine XS.iloadN X102.here hx rfl (hb hby d_jdk_42_method_149_code_34) rfl ?_
    show Steps pg.tables ev below (T102.setTop (mkF mi 35 #[.val (.ref x), .val (.ref v), .val (.int (0 : Int32)), .val (.int (2 : Int32)), .val .null, .unset] [(.int (0 : Int32)), (.ref v)])) _
    refine XS.iloadN X102.here hx rfl (hb hby d_jdk_42_method_149_code_35) rfl ?_
    show Steps pg.tables ev below (T102.setTop (mkF mi 36 #[.val (.ref x), .val (.ref v), .val (.int (0 : Int32)), .val (.int (2 : Int32)), .val .null, .unset] [(.int (2 : Int32)), (.int (0 : Int32)), (.ref v)])) _
    refine st103 _ ?_
    show Steps pg.tables ev below (T103.setTop (mkF mi 39 #[.val (.ref x), .val (.ref v), .val (.int (0 : Int32)), .val (.int (2 : Int32)), .val .null, .unset] [(.ref t_103)])) _
    refine XS.astore X103.here hx rfl (hb hby d_jdk_42_method_149_code_39) rfl rfl (l' := #[.val (.ref x), .val (.ref v), .val (.int (0 : Int32)), .val (.int (2 : Int32)), .val .null, .val (.ref t_103)]) rfl ?_
    show Steps pg.tables ev below (T103.setTop (mkF mi 41 #[.val (.ref x), .val (.ref v), .val (.int (0 : Int32)), .val (.int (2 : Int32)), .val .null, .val (.ref t_103)] [])) _
    refine XS.aloadN X103.here hx rfl (hb hby d_jdk_42_method_149_code_41) rfl rfl ?_
    show Steps pg.tables ev below (T103.setTop (mkF mi 42 #[.val (.ref x), .val (.ref v), .val (.int (0 : Int32)), .val (.int (2 : Int32)), .val .null, .val (.ref t_103)] [(.ref x)])) _
    refine XS.aload X103.here hx rfl (hb hby d_jdk_42_method_149_code_42) rfl rfl ?_
    show Steps pg.tables ev below (T103.setTop (mkF mi 44 #[.val (.ref x), .val (.ref v), .val (.int (0 : Int32)), .val (.int (2 : Int32)), .val .null, .val (.ref t_103)] [(.ref t_103), (.ref x)])) _
    refine XS.iloadN X103.here hx rfl (hb hby d_jdk_42_method_149_code_44) rfl ?_
    show Steps pg.tables ev below (T103.setTop (mkF mi 45 #[.val (.ref x), .val (.ref v), .val (.int (0 : Int32)), .val (.int (2 : Int32)), .val .null, .val (.ref t_103)] [(.int (2 : Int32)), (.ref t_103), (.ref x)])) _
    refine st105 _ ?_
    show Steps pg.tables ev below (T105.setTop (mkF mi 48 #[.val (.ref x), .val (.ref v), .val (.int (0 : Int32)), .val (.int (2 : Int32)), .val .null, .val (.ref t_103)] [(.int (0 : Int32)), (.ref x)])) _
    refine st108 _ ?_
    show Steps pg.tables ev below (T108.setTop (mkF mi 51 #[.val (.ref x), .val (.ref v), .val (.int (0 : Int32)), .val (.int (2 : Int32)), .val .null, .val (.ref t_103)] [])) _
    refine XS.aloadN X108.here hx rfl (hb hby d_jdk_42_method_149_code_51) rfl rfl ?_
    show Steps pg.tables ev below (T108.setTop (mkF mi 52 #[.val (.ref x), .val (.ref v), .val (.int (0 : Int32)), .val (.int (2 : Int32)), .val .null, .val (.ref t_103)] [(.ref x)])) _
    refine XS.aload X108.here hx rfl (hb hby d_jdk_42_method_149_code_52) rfl rfl ?_
    show Steps pg.tables ev below (T108.setTop (mkF mi 54 #[.val (.ref x), .val (.ref v), .val (.int (0 : Int32)), .val (.int (2 : Int32)), .val .null, .val (.ref t_103)] [(.ref t_103), (.ref x)])) _
    refine st112 _ ?_
    show Steps pg.tables ev below (T112.setTop (mkF mi 57 #[.val (.ref x), .val (.ref v), .val (.int (0 : Int32)), .val (.int (2 : Int32)), .val .null, .val (.ref t_103)] [])) _
    exact X112.returnOut hx Bd.returns (hb hby d_jdk_42_method_149_code_57) hr
  · show Q_siv2 Z x v kv zc c0 c1 hE n0 _ T112.heap _
    rw [e112]
    exact ⟨t_103, rfl, N112, ((((Keep.refl hE [x]).trans Kq103 all0).trans (Keep.of_wr W108) (allS (Or.inl (List.mem_of_getElem? (i := 0) rfl)) all0)).trans (Keep.of_wr W112) (allS (Or.inl (List.mem_of_getElem? (i := 0) rfl)) all0)), fr_t_103, s117⟩
theorem ef_sic2 (mi : MethodId) (x : Addr) (v : Addr) : entryFrame mi #[(.ref x), (.ref v)] 2 = mkF mi 0 #[.val (.ref x), .val (.ref v)] [] := by first | (simp [entryFrame, mkF, argsToLocals, Value.category]; done) | rfl
def Q_sic2 (Z : State) (x : Addr) (v : Addr) (kv : ClassId) (zc : Int32) (c0 : Int32) (c1 : Int32) (hE : Heap) (n0 : Nat) (vv : Option Value) (hh : Heap) (LL : List Loc) : Prop := ∃ t : Addr, (vv = none) ∧ (Fr n0 LL) ∧ (Keep hE hh [x]) ∧ (hE.size ≤ t) ∧ (LStr Z hh x t ([c0, c1] : List Int32))
set_option maxRecDepth 65536 in
set_option maxHeartbeats 40000000 in
theorem rm_sic2 (la : Launch) (Z : State) (a0 : Array Value) (hw : ∀ d ∈ tables_1, d.before a0 Z = true) (ws : List Jvm.Cond) (x : Addr) (v : Addr) (kv : ClassId) (zc : Int32) (c0 : Int32) (c1 : Int32) (hE : Heap) (n0 : Nat) (O : Old Z n0 hE) (P0_ : Exa Z hE x "java/lang/String") (P1_ : Fld Z hE x "java/lang/String" "value" "[B" .null) (P2_ : Fld Z hE x "java/lang/String" "coder" "B" (.int (0 : Int32))) (P3_ : Arv Z hE v kv .char (2 : Int32) [(.int c0), (.int c1)] (.int (0 : Int32))) (D0_ : Sta Z Z.heap "java/lang/String" "COMPACT_STRINGS" "Z" (.int zc)) (g_x : n0 ≤ x) (ne_v_x : v ≠ x) (hb0 : ¬ ((255 : Int32) < c0)) (hb1 : ¬ ((255 : Int32) < c1)) (hn0 : ¬ (c0 < (0 : Int32))) (hn1 : ¬ (c1 < (0 : Int32))) (hzc : ¬ (zc = (0 : Int32))) :
    MetFree la mn5 (head1 (Jvm.Cond.code mn5 jdk_42_method_3_code 2 none :: ws) ({ frames := 3, cells := 1, slots := 2, locals := 52 } : Room)) (fun aa UU => aa = #[(.ref x), (.ref v)] ∧ Z.Warmed39 UU.vm ∧ UU.heap = hE) (fun _ _ _ _ _ => True) (fun _ UU oo UV => ∃ vv LL, oo = .returned vv ∧ Q_sic2 Z x v kv zc c0 c1 hE n0 vv UV.heap LL ∧ FrameEnd UU oo UV LL ({ frames := 3, cells := 1, slots := 2, locals := 52 } : Room).cells ({ frames := 3, cells := 1, slots := 2, locals := 52 } : Room).slots) := by
  refine MetFree.of_bodySF (plainFor_of_name pn_java_lang_String) hisR ?_
  intro pg ev sb mi gs below me cd s₁ Bd hml0 hPt hKt
  obtain ⟨rfl, hZ, hh⟩ := hPt
  have hx := Bd.exec
  have hby := Bd.bytes
  have hml : cd.maxLocals = 2 := hml0
  have hown : sb.vm.findClass "java/lang/String" = some mi.cls := findClass_of_methodNamed Bd.named
  have hnm := (name_of_methodNamed Bd.named Bd.method).1
  have X0 : Stand pg la ev ({ frames := 3, cells := 1, slots := 2, locals := 52 } : Room) sb mi #[(.ref x), (.ref v)] below me cd s₁ [] 0 0 := Stand.of_body Bd
  have eE : s₁.heap = hE := by rw [← hh, Bd.state]; rfl
  have N0 := Fr.nil n0
  have pre0 : ∀ tt, Steps pg.tables ev below (s₁.setTop (mkF mi 0 #[.val (.ref x), .val (.ref v)] [])) tt → Steps pg.tables ev below (s₁.setTop (entryFrame mi #[(.ref x), (.ref v)] 2)) tt := fun tt kk => castTop (ef_sic2 mi x v) kk
  obtain ⟨cl101, Ar101, -, Sz101, Nn101, -, -⟩ := id P3_
  obtain ⟨v102, _, ⟨T102, L102, k102, n102⟩, -, X102, ⟨Lc102, hQ102, l102, y102, z102⟩, st102⟩ := X0.specialBack hx (y := mn4) rfl hown (mvT hZ (wd18 hw)) (mvT hZ (wd19 hw)) (mvT hZ (wd21 hw)) (by decide) (backOf (W := 0) (rm_siv2 la Z a0 hw [] x v kv zc c0 c1 hE n0 O P0_ P1_ P2_ P3_ D0_ g_x ne_v_x (hb0 : ¬ ((255 : Int32) < c0)) (hb1 : ¬ ((255 : Int32) < c1)) (hn0 : ¬ (c0 < (0 : Int32))) (hn1 : ¬ (c1 < (0 : Int32))) (hzc : ¬ (zc = (0 : Int32)))) hZ (wd21 hw) (wd13 hw) (by decide) (by decide)) (g := (mkF mi 6 #[.val (.ref x), .val (.ref v)] [.null, (.int (2 : Int32)), (.int (0 : Int32)), (.ref v), (.ref x)])) rfl (by rw [hml]; rfl) (Steps.refl _) (a := x) (argsL := [(.ref v), (.int (0 : Int32)), (.int (2 : Int32)), .null]) (rest := []) (lenOf pd_3 rfl) rfl (by show 2 * 0 + _ ≤ _; exact Nat.le_of_eq rfl) (hb hby d_jdk_42_method_3_code_6) (fun _ _ => ⟨rfl, eE, (by decide : 0 + 1 ≤ _), (by decide : 0 + 2 ≤ _)⟩)
  dsimp only [Pt.U, Pt.locs, Pt.cells, Pt.slots] at X102 l102 y102 z102 st102 hQ102
  subst l102 y102 z102
  obtain ⟨t_102, rfl, Nq102, Kq102, fr_t_102, r102_0⟩ := hQ102
  have N102 := Fr.app N0 Nq102
  obtain ⟨fs, hr, hrun, hended, hW, hsame⟩ := X102.leave (v := none) (fun _ => rfl)
  refine ⟨_, _, pre0 _ ?_, hrun, hended, _, _, rfl, ?_, ⟨_, rfl⟩, hW, hsame.mono (by decide) (by decide)⟩
  · show Steps pg.tables ev below (s₁.setTop (mkF mi 0 #[.val (.ref x), .val (.ref v)] [])) _
    refine XS.aloadN X0.here hx rfl (hb hby d_jdk_42_method_3_code_0) rfl rfl ?_
    show Steps pg.tables ev below (s₁.setTop (mkF mi 1 #[.val (.ref x), .val (.ref v)] [(.ref x)])) _
    refine XS.aloadN X0.here hx rfl (hb hby d_jdk_42_method_3_code_1) rfl rfl ?_
    show Steps pg.tables ev below (s₁.setTop (mkF mi 2 #[.val (.ref x), .val (.ref v)] [(.ref v), (.ref x)])) _
    refine XS.iconst X0.here hx rfl (hb hby d_jdk_42_method_3_code_2) ?_
    show Steps pg.tables ev below (s₁.setTop (mkF mi 3 #[.val (.ref x), .val (.ref v)] [(.int (0 : Int32)), (.ref v), (.ref x)])) _
    refine XS.aloadN X0.here hx rfl (hb hby d_jdk_42_method_3_code_3) rfl rfl ?_
    show Steps pg.tables ev below (s₁.setTop (mkF mi 4 #[.val (.ref x), .val (.ref v)] [(.ref v), (.int (0 : Int32)), (.ref v), (.ref x)])) _
    refine X0.arraylength hx (cell := cl101) (by rw [eE]; exact Ar101.1) (State.isArrayOf_alike hZ.alike Ar101.2.1) (g := (mkF mi 4 #[.val (.ref x), .val (.ref v)] [(.ref v), (.int (0 : Int32)), (.ref v), (.ref x)])) rfl (rest := [(.int (0 : Int32)), (.ref v), (.ref x)]) rfl (hb hby d_jdk_42_method_3_code_4) _ ?_
    rw [len_of Sz101 Nn101]
    show Steps pg.tables ev below (s₁.setTop (mkF mi 5 #[.val (.ref x), .val (.ref v)] [(.int (2 : Int32)), (.int (0 : Int32)), (.ref v), (.ref x)])) _
    refine XS.aconstNull X0.here hx rfl (hb hby d_jdk_42_method_3_code_5) ?_
    show Steps pg.tables ev below (s₁.setTop (mkF mi 6 #[.val (.ref x), .val (.ref v)] [.null, (.int (2 : Int32)), (.int (0 : Int32)), (.ref v), (.ref x)])) _
    refine st102.trans ?_
    show Steps pg.tables ev below (T102.setTop (mkF mi 9 #[.val (.ref x), .val (.ref v)] [])) _
    exact X102.returnOut hx Bd.returns (hb hby d_jdk_42_method_3_code_9) hr
  · show Q_sic2 Z x v kv zc c0 c1 hE n0 _ T102.heap _
    exact ⟨t_102, rfl, N102, ((Keep.refl hE [x]).trans Kq102 (allS (Or.inl (List.mem_of_getElem? (i := 0) rfl)) all0)), fr_t_102, r102_0⟩
theorem d_jdk_42_method_149_code_8 : decode jdk_42_method_149_code 8 = .ok (.aload_n 0, 1) := by decide +kernel
theorem d_jdk_42_method_149_code_9 : decode jdk_42_method_149_code 9 = .ok (.ldc 7, 2) := by decide +kernel
theorem d_jdk_42_method_149_code_11 : decode jdk_42_method_149_code 11 = .ok (.getfield 9, 3) := by decide +kernel
theorem d_jdk_42_method_149_code_14 : decode jdk_42_method_149_code 14 = .ok (.putfield 9, 3) := by decide +kernel
theorem d_jdk_42_method_149_code_17 : decode jdk_42_method_149_code 17 = .ok (.aload_n 0, 1) := by decide +kernel
theorem d_jdk_42_method_149_code_18 : decode jdk_42_method_149_code 18 = .ok (.ldc 7, 2) := by decide +kernel
theorem d_jdk_42_method_149_code_20 : decode jdk_42_method_149_code 20 = .ok (.getfield 15, 3) := by decide +kernel
theorem d_jdk_42_method_149_code_23 : decode jdk_42_method_149_code 23 = .ok (.putfield 15, 3) := by decide +kernel
theorem d_jdk_42_method_149_code_26 : decode jdk_42_method_149_code 26 = .ok (.return_, 1) := by decide +kernel
theorem ef_siv0 (mi : MethodId) (x : Addr) (v : Addr) : entryFrame mi #[(.ref x), (.ref v), (.int (0 : Int32)), (.int (0 : Int32)), .null] 6 = mkF mi 0 #[.val (.ref x), .val (.ref v), .val (.int (0 : Int32)), .val (.int (0 : Int32)), .val .null, .unset] [] := by first | (simp [entryFrame, mkF, argsToLocals, Value.category]; done) | rfl
def Q_siv0 (Z : State) (x : Addr) (v : Addr) (kv : ClassId) (hE : Heap) (n0 : Nat) (vv : Option Value) (hh : Heap) (LL : List Loc) : Prop := ∃ t : Addr, (vv = none) ∧ (Fr n0 LL) ∧ (Keep hE hh [x]) ∧ (LStr Z hh x t ([] : List Int32))
set_option maxRecDepth 65536 in
set_option maxHeartbeats 40000000 in
theorem rm_siv0 (la : Launch) (Z : State) (a0 : Array Value) (hw : ∀ d ∈ tables_1, d.before a0 Z = true) (ws : List Jvm.Cond) (x : Addr) (v : Addr) (kv : ClassId) (hE : Heap) (n0 : Nat) (O : Old Z n0 hE) (P0_ : Exa Z hE x "java/lang/String") (P1_ : Fld Z hE x "java/lang/String" "value" "[B" .null) (P2_ : Fld Z hE x "java/lang/String" "coder" "B" (.int (0 : Int32))) (P3_ : Arv Z hE v kv .char (0 : Int32) [] (.int (0 : Int32))) (g_x : n0 ≤ x) :
    MetFree la mn4 (head1 (Jvm.Cond.code mn4 jdk_42_method_149_code 6 none :: ws) ({ frames := 1, cells := 4, slots := 8, locals := 12 } : Room)) (fun aa UU => aa = #[(.ref x), (.ref v), (.int (0 : Int32)), (.int (0 : Int32)), .null] ∧ Z.Warmed39 UU.vm ∧ UU.heap = hE ∧ CHv Z ELs UU.vm hE) (fun _ _ _ _ _ => True) (fun _ UU oo UV => ∃ vv LL, oo = .returned vv ∧ Q_siv0 Z x v kv hE n0 vv UV.heap LL ∧ CHr Z ELs UU.vm UU.heap UV.vm UV.heap ∧ ReturnedEndW UU oo UV LL ({ frames := 1, cells := 4, slots := 8, locals := 12 } : Room).cells ({ frames := 1, cells := 4, slots := 8, locals := 12 } : Room).slots) := by
  refine MetFree.of_bodySF (plainFor_of_name pn_java_lang_String) hisR ?_
  intro pg ev sb mi gs below me cd s₁ Bd hml0 hPt hKt
  obtain ⟨rfl, hZ, hh, hH⟩ := hPt
  have hx := Bd.exec
  have hby := Bd.bytes
  have hml : cd.maxLocals = 6 := hml0
  have hown : sb.vm.findClass "java/lang/String" = some mi.cls := findClass_of_methodNamed Bd.named
  have hnm := (name_of_methodNamed Bd.named Bd.method).1
  have X0 : Stand pg la ev ({ frames := 1, cells := 4, slots := 8, locals := 12 } : Room) (sb.setVm sb.vm) mi #[(.ref x), (.ref v), (.int (0 : Int32)), (.int (0 : Int32)), .null] below me cd s₁ [] 0 0 := Stand.of_body Bd
  have eE : s₁.heap = hE := by rw [← hh, Bd.state]; rfl
  have N0 := Fr.nil n0
  have pre0 : ∀ tt, Steps pg.tables ev below (s₁.setTop (mkF mi 0 #[.val (.ref x), .val (.ref v), .val (.int (0 : Int32)), .val (.int (0 : Int32)), .val .null, .unset] [])) tt → Steps pg.tables ev below (s₁.setTop (entryFrame mi #[(.ref x), (.ref v), (.int (0 : Int32)), (.int (0 : Int32)), .null] 6)) tt := fun tt kk => castTop (ef_siv0 mi x v) kk
  have hS : sb.Since sb.vm 0 := (State.WarmedH.refl sb).since 0
  have hk : 0 ≤ hE.size := Nat.zero_le _
  have hEL := own_EW hw
  have C0 := CHr.refl hH
  obtain ⟨T101, X101, e101, st101⟩ := initO X0 hx hZ hown (wd22 hw) (wd23 hw) (wd24 hw) eE (g := (mkF mi 1 #[.val (.ref x), .val (.ref v), .val (.int (0 : Int32)), .val (.int (0 : Int32)), .val .null, .unset] [(.ref x)])) rfl (by rw [hml]; rfl) rfl (hb hby d_jdk_42_method_149_code_1) (by decide) (W := 0) (by show 2 * 0 + _ ≤ _; exact Nat.le_of_eq rfl) (by decide)
  have pre103 : ∀ tt, Steps pg.tables ev below (T101.setTop (mkF mi 9 #[.val (.ref x), .val (.ref v), .val (.int (0 : Int32)), .val (.int (0 : Int32)), .val .null, .unset] [(.ref x)])) tt → Steps pg.tables ev below (s₁.setTop (entryFrame mi #[(.ref x), (.ref v), (.int (0 : Int32)), (.int (0 : Int32)), .null] 6)) tt := fun tt kk => pre0 _ (by
    show Steps pg.tables ev below (s₁.setTop (mkF mi 0 #[.val (.ref x), .val (.ref v), .val (.int (0 : Int32)), .val (.int (0 : Int32)), .val .null, .unset] [])) _
    refine XS.aloadN X0.here hx rfl (hb hby d_jdk_42_method_149_code_0) rfl rfl ?_
    show Steps pg.tables ev below (s₁.setTop (mkF mi 1 #[.val (.ref x), .val (.ref v), .val (.int (0 : Int32)), .val (.int (0 : Int32)), .val .null, .unset] [(.ref x)])) _
    refine st101 _ ?_
    show Steps pg.tables ev below (T101.setTop (mkF mi 4 #[.val (.ref x), .val (.ref v), .val (.int (0 : Int32)), .val (.int (0 : Int32)), .val .null, .unset] [])) _
    refine XS.iloadN X101.here hx rfl (hb hby d_jdk_42_method_149_code_4) rfl ?_
    show Steps pg.tables ev below (T101.setTop (mkF mi 5 #[.val (.ref x), .val (.ref v), .val (.int (0 : Int32)), .val (.int (0 : Int32)), .val .null, .unset] [(.int (0 : Int32))])) _
    refine XS.ifNo X101.here hx rfl (hb hby d_jdk_42_method_149_code_5) rfl ((if0 _ _).trans (teq (rfl : (0 : Int32) = (0 : Int32))).2) ?_
    show Steps pg.tables ev below (T101.setTop (mkF mi 8 #[.val (.ref x), .val (.ref v), .val (.int (0 : Int32)), .val (.int (0 : Int32)), .val .null, .unset] [])) _
    refine XS.aloadN X101.here hx rfl (hb hby d_jdk_42_method_149_code_8) rfl rfl ?_
    exact kk)
  obtain ⟨a102, T102, h102, k102, d102, kc102, X102, e102, E102, hS, hk, hZ, hown, lE102, lC102, lV102, lA102, -, -, c102, -, -, st102⟩ := ldcCH X101 hx hZ hown (wd25 hw) (own_wS hw) e101 hS hk hEL (by decide +kernel) C0.1 (vs := ([] : List Int32).map fun c => Value.int c.toInt8.toInt32) (z := Int32.ofNat ([] : List Int32).length) (by decide +kernel) (by decide) (by decide) (g := (mkF mi 9 #[.val (.ref x), .val (.ref v), .val (.int (0 : Int32)), .val (.int (0 : Int32)), .val .null, .unset] [(.ref x)])) rfl (hb hby d_jdk_42_method_149_code_9) (n := 0) (by decide) (by decide) (by decide) (by decide)
  have C104 := CHr.trans C0 c102
  have s105 : LStr Z h102 a102 d102 ([] : List Int32) := ⟨lE102, lV102, lC102, ⟨_, lA102⟩, (by decide), (by decide)⟩
  obtain ⟨sE106, sV106, sC106, ⟨kb106, sK106⟩, sb106, sl106⟩ := id s105
  have sK106' : Arv Z h102 d102 kb106 .byte (0 : Int32) [] (.int (0 : Int32)) := sK106
  obtain ⟨T107, X107, e107, st107⟩ := getF X102 hx hZ hown (host := "") (Or.inl (wd31 hw)) Via.refl e102 sV106 (g := (mkF mi 11 #[.val (.ref x), .val (.ref v), .val (.int (0 : Int32)), .val (.int (0 : Int32)), .val .null, .unset] [(.ref a102), (.ref x)])) rfl rfl (hb hby d_jdk_42_method_149_code_11)
  have f108 : Exa Z h102 x "java/lang/String" := (P0_.ext E102)
  have f109 : Fld Z h102 x "java/lang/String" "value" "[B" .null := (P1_.ext E102)
  obtain ⟨T110, h110, X110, e110, W110, st110⟩ := putF X107 hx hZ hown (host := "") (Or.inl (wd31 hw)) Via.refl e107 f109 f108 (Or.inr ⟨(wd27 hw), rfl, hnm⟩) (wd12 hw) (ty := (.array .byte)) (by decide) rfl rfl (g := (mkF mi 14 #[.val (.ref x), .val (.ref v), .val (.int (0 : Int32)), .val (.int (0 : Int32)), .val .null, .unset] [(.ref d102), (.ref x)])) rfl rfl (hb hby d_jdk_42_method_149_code_14)
  have N110 := Fr.snoc X110 N0 g_x
  have f111 : Arv Z h102 v kv .char (0 : Int32) [] (.int (0 : Int32)) := (P3_.ext E102)
  have ne_x_v : x ≠ v := Exa.neArv f108 f111 (wd12 hw)
  have ne_x_d102 : x ≠ d102 := Exa.neArv f108 sK106' (wd12 hw)
  have sf113 : Safe Z ELs _ h102 x := own_safe_raw hZ.alike f108 f109
  have c112 := CHr.keep (Keep.of_wr W110) (sfS sf113 sf0) C104.1
  have C114 := CHr.trans C104 c112
  have f115 : Fld Z h110 x "java/lang/String" "value" "[B" (.ref d102) := f109.same W110
  have pre117 : ∀ tt, Steps pg.tables ev below (T110.setTop (mkF mi 18 #[.val (.ref x), .val (.ref v), .val (.int (0 : Int32)), .val (.int (0 : Int32)), .val .null, .unset] [(.ref x)])) tt → Steps pg.tables ev below (s₁.setTop (entryFrame mi #[(.ref x), (.ref v), (.int (0 : Int32)), (.int (0 : Int32)), .null] 6)) tt := fun tt kk => pre103 _ (by
    show Steps pg.tables ev below (T101.setTop (mkF mi 9 #[.val (.ref x), .val (.ref v), .val (.int (0 : Int32)), .val (.int (0 : Int32)), .val .null, .unset] [(.ref x)])) _
    refine st102 _ ?_
    show Steps pg.tables ev below (T102.setTop (mkF mi 11 #[.val (.ref x), .val (.ref v), .val (.int (0 : Int32)), .val (.int (0 : Int32)), .val .null, .unset] [(.ref a102), (.ref x)])) _
    refine st107 _ ?_
    show Steps pg.tables ev below (T107.setTop (mkF mi 14 #[.val (.ref x), .val (.ref v), .val (.int (0 : Int32)), .val (.int (0 : Int32)), .val .null, .unset] [(.ref d102), (.ref x)])) _
    refine st110 _ ?_
    show Steps pg.tables ev below (T110.setTop (mkF mi 17 #[.val (.ref x), .val (.ref v), .val (.int (0 : Int32)), .val (.int (0 : Int32)), .val .null, .unset] [])) _
    refine XS.aloadN X110.here hx rfl (hb hby d_jdk_42_method_149_code_17) rfl rfl ?_
    exact kk)
  obtain ⟨a116, T116, h116, k116, d116, kc116, X116, e116, E116, hS, hk, hZ, hown, lE116, lC116, lV116, lA116, -, -, c116, -, -, st116⟩ := ldcCH X110 hx hZ hown (wd25 hw) (own_wS hw) e110 hS (Nat.le_trans hk (Keep.of_wr W110).1) hEL (by decide +kernel) C114.1 (vs := ([] : List Int32).map fun c => Value.int c.toInt8.toInt32) (z := Int32.ofNat ([] : List Int32).length) (by decide +kernel) (by decide) (by decide) (g := (mkF mi 18 #[.val (.ref x), .val (.ref v), .val (.int (0 : Int32)), .val (.int (0 : Int32)), .val .null, .unset] [(.ref x)])) rfl (hb hby d_jdk_42_method_149_code_18) (n := 0) (by decide) (by decide) (by decide) (by decide)
  have C118 := CHr.trans C114 c116
  have s119 : LStr Z h116 a116 d116 ([] : List Int32) := ⟨lE116, lV116, lC116, ⟨_, lA116⟩, (by decide), (by decide)⟩
  obtain ⟨sE120, sV120, sC120, ⟨kb120, sK120⟩, sb120, sl120⟩ := id s119
  have sK120' : Arv Z h116 d116 kb120 .byte (0 : Int32) [] (.int (0 : Int32)) := sK120
  obtain ⟨T121, X121, e121, st121⟩ := getF X116 hx hZ hown (host := "") (Or.inl (wd32 hw)) Via.refl e116 sC120 (g := (mkF mi 20 #[.val (.ref x), .val (.ref v), .val (.int (0 : Int32)), .val (.int (0 : Int32)), .val .null, .unset] [(.ref a116), (.ref x)])) rfl rfl (hb hby d_jdk_42_method_149_code_20)
  have f122 : Exa Z h116 x "java/lang/String" := ((f108.keep (Keep.of_wr W110)).ext E116)
  have f123 : Fld Z h116 x "java/lang/String" "coder" "B" (.int (0 : Int32)) := (((P2_.ext E102).other W110 (Or.inr (slot_ne (Or.inr (wd28 hw)) (Or.inr (wd27 hw)) (by decide) (t := .byte) (t' := (.array .byte)) (by decide) (by decide)))).ext E116)
  obtain ⟨T124, h124, X124, e124, W124, st124⟩ := putFN X121 hx hZ hown (wd32 hw) Via.refl e121 f123 f122 (Or.inr ⟨(wd28 hw), rfl, hnm⟩) (wd12 hw) (ty := .byte) (v' := (.int (0 : Int32))) (by decide) rfl rfl (g := (mkF mi 23 #[.val (.ref x), .val (.ref v), .val (.int (0 : Int32)), .val (.int (0 : Int32)), .val .null, .unset] [(.int (0 : Int32)), (.ref x)])) rfl rfl (hb hby d_jdk_42_method_149_code_23)
  have N124 := Fr.snoc X124 N110 g_x
  have ne_x_d116 : x ≠ d116 := Exa.neArv f122 sK120' (wd12 hw)
  have sf126 : Safe Z ELs _ h116 x := (c116.safe (Nat.lt_of_lt_of_le P0_.lt (Nat.le_trans E102.1 (Keep.of_wr W110).1)) (c112.safe (Nat.lt_of_lt_of_le P0_.lt E102.1) sf113))
  have c125 := CHr.keep (Keep.of_wr W124) (sfS sf126 sf0) C118.1
  have C127 := CHr.trans C118 c125
  have f128 : Fld Z h124 x "java/lang/String" "coder" "B" (.int (0 : Int32)) := f123.same W124
  have f129 : Exa Z h124 x "java/lang/String" := (f122.keep (Keep.of_wr W124))
  have f130 : Fld Z h124 x "java/lang/String" "value" "[B" (.ref d102) := ((f115.ext E116).other W124 (Or.inr (slot_ne (Or.inr (wd27 hw)) (Or.inr (wd28 hw)) (by decide) (t := (.array .byte)) (t' := .byte) (by decide) (by decide))))
  have f131 : Arv Z h124 d102 kb106 .byte (0 : Int32) [] (.int (0 : Int32)) := (((sK106'.keep (Keep.of_wr W110) (ninS (Ne.symm ne_x_d102) nin0)).ext E116).keep (Keep.of_wr W124) (ninS (Ne.symm ne_x_d102) nin0))
  have s132 : LStr Z h124 x d102 ([] : List Int32) := ⟨f129, f130, f128, ⟨_, f131⟩, (by decide), (by decide)⟩
  obtain ⟨fs, hr, hrun, hended, hWe⟩ := X124.leaveW hS (show _ ≤ T124.heap.size by rw [e124]; exact (Nat.le_trans hk (Keep.of_wr W124).1)) (v := none) (fun _ => rfl)
  refine ⟨_, _, pre117 _ ?_, hrun, hended, _, _, rfl, ?_, ?_, hWe.1, hWe.2.1, hWe.2.2.1, hWe.2.2.2.mono (by decide) (by decide)⟩
  · show Steps pg.tables ev below (T110.setTop (mkF mi 18 #[.val (.ref x), .val (.ref v), .val (.int (0 : Int32)), .val (.int (0 : Int32)), .val .null, .unset] [(.ref x)])) _
    refine st116 _ ?_
    show Steps pg.tables ev below (T116.setTop (mkF mi 20 #[.val (.ref x), .val (.ref v), .val (.int (0 : Int32)), .val (.int (0 : Int32)), .val .null, .unset] [(.ref a116), (.ref x)])) _
    refine st121 _ ?_
    show Steps pg.tables ev below (T121.setTop (mkF mi 23 #[.val (.ref x), .val (.ref v), .val (.int (0 : Int32)), .val (.int (0 : Int32)), .val .null, .unset] [(.int (0 : Int32)), (.ref x)])) _
    refine st124 _ ?_
    show Steps pg.tables ev below (T124.setTop (mkF mi 26 #[.val (.ref x), .val (.ref v), .val (.int (0 : Int32)), .val (.int (0 : Int32)), .val .null, .unset] [])) _
    exact X124.returnOut hx Bd.returns (hb hby d_jdk_42_method_149_code_26) hr
  · show Q_siv0 Z x v kv hE n0 _ T124.heap _
    rw [e124]
    exact ⟨d102, rfl, N124, (((((Keep.refl hE [x]).ext E102).trans (Keep.of_wr W110) (allS (Or.inl (List.mem_of_getElem? (i := 0) rfl)) all0)).ext E116).trans (Keep.of_wr W124) (allS (Or.inl (List.mem_of_getElem? (i := 0) rfl)) all0)), s132⟩
  · show CHr Z ELs sb.vm sb.heap T124.vm T124.heap
    rw [hh, e124]
    exact CHr.trans C127 (CHv.at X124 hZ hEL C127.1)
theorem ef_sic0 (mi : MethodId) (x : Addr) (v : Addr) : entryFrame mi #[(.ref x), (.ref v)] 2 = mkF mi 0 #[.val (.ref x), .val (.ref v)] [] := by first | (simp [entryFrame, mkF, argsToLocals, Value.category]; done) | rfl
def Q_sic0 (Z : State) (x : Addr) (v : Addr) (kv : ClassId) (hE : Heap) (n0 : Nat) (vv : Option Value) (hh : Heap) (LL : List Loc) : Prop := ∃ t : Addr, (vv = none) ∧ (Fr n0 LL) ∧ (Keep hE hh [x]) ∧ (LStr Z hh x t ([] : List Int32))
set_option maxRecDepth 65536 in
set_option maxHeartbeats 40000000 in
theorem rm_sic0 (la : Launch) (Z : State) (a0 : Array Value) (hw : ∀ d ∈ tables_1, d.before a0 Z = true) (ws : List Jvm.Cond) (x : Addr) (v : Addr) (kv : ClassId) (hE : Heap) (n0 : Nat) (O : Old Z n0 hE) (P0_ : Exa Z hE x "java/lang/String") (P1_ : Fld Z hE x "java/lang/String" "value" "[B" .null) (P2_ : Fld Z hE x "java/lang/String" "coder" "B" (.int (0 : Int32))) (P3_ : Arv Z hE v kv .char (0 : Int32) [] (.int (0 : Int32))) (g_x : n0 ≤ x) :
    MetFree la mn5 (head1 (Jvm.Cond.code mn5 jdk_42_method_3_code 2 none :: ws) ({ frames := 2, cells := 4, slots := 8, locals := 29 } : Room)) (fun aa UU => aa = #[(.ref x), (.ref v)] ∧ Z.Warmed39 UU.vm ∧ UU.heap = hE ∧ CHv Z ELs UU.vm hE) (fun _ _ _ _ _ => True) (fun _ UU oo UV => ∃ vv LL, oo = .returned vv ∧ Q_sic0 Z x v kv hE n0 vv UV.heap LL ∧ CHr Z ELs UU.vm UU.heap UV.vm UV.heap ∧ ReturnedEndW UU oo UV LL ({ frames := 2, cells := 4, slots := 8, locals := 29 } : Room).cells ({ frames := 2, cells := 4, slots := 8, locals := 29 } : Room).slots) := by
  refine MetFree.of_bodySF (plainFor_of_name pn_java_lang_String) hisR ?_
  intro pg ev sb mi gs below me cd s₁ Bd hml0 hPt hKt
  obtain ⟨rfl, hZ, hh, hH⟩ := hPt
  have hx := Bd.exec
  have hby := Bd.bytes
  have hml : cd.maxLocals = 2 := hml0
  have hown : sb.vm.findClass "java/lang/String" = some mi.cls := findClass_of_methodNamed Bd.named
  have hnm := (name_of_methodNamed Bd.named Bd.method).1
  have X0 : Stand pg la ev ({ frames := 2, cells := 4, slots := 8, locals := 29 } : Room) (sb.setVm sb.vm) mi #[(.ref x), (.ref v)] below me cd s₁ [] 0 0 := Stand.of_body Bd
  have eE : s₁.heap = hE := by rw [← hh, Bd.state]; rfl
  have N0 := Fr.nil n0
  have pre0 : ∀ tt, Steps pg.tables ev below (s₁.setTop (mkF mi 0 #[.val (.ref x), .val (.ref v)] [])) tt → Steps pg.tables ev below (s₁.setTop (entryFrame mi #[(.ref x), (.ref v)] 2)) tt := fun tt kk => castTop (ef_sic0 mi x v) kk
  have hS : sb.Since sb.vm 0 := (State.WarmedH.refl sb).since 0
  have hk : 0 ≤ hE.size := Nat.zero_le _
  have hEL := own_EW hw
  have C0 := CHr.refl hH
  obtain ⟨cl101, Ar101, -, Sz101, Nn101, -, -⟩ := id P3_
  have pre103 : ∀ tt, Steps pg.tables ev below (s₁.setTop (mkF mi 6 #[.val (.ref x), .val (.ref v)] [.null, (.int (0 : Int32)), (.int (0 : Int32)), (.ref v), (.ref x)])) tt → Steps pg.tables ev below (s₁.setTop (entryFrame mi #[(.ref x), (.ref v)] 2)) tt := fun tt kk => pre0 _ (by
    show Steps pg.tables ev below (s₁.setTop (mkF mi 0 #[.val (.ref x), .val (.ref v)] [])) _
    refine XS.aloadN X0.here hx rfl (hb hby d_jdk_42_method_3_code_0) rfl rfl ?_
    show Steps pg.tables ev below (s₁.setTop (mkF mi 1 #[.val (.ref x), .val (.ref v)] [(.ref x)])) _
    refine XS.aloadN X0.here hx rfl (hb hby d_jdk_42_method_3_code_1) rfl rfl ?_
    show Steps pg.tables ev below (s₁.setTop (mkF mi 2 #[.val (.ref x), .val (.ref v)] [(.ref v), (.ref x)])) _
    refine XS.iconst X0.here hx rfl (hb hby d_jdk_42_method_3_code_2) ?_
    show Steps pg.tables ev below (s₁.setTop (mkF mi 3 #[.val (.ref x), .val (.ref v)] [(.int (0 : Int32)), (.ref v), (.ref x)])) _
    refine XS.aloadN X0.here hx rfl (hb hby d_jdk_42_method_3_code_3) rfl rfl ?_
    show Steps pg.tables ev below (s₁.setTop (mkF mi 4 #[.val (.ref x), .val (.ref v)] [(.ref v), (.int (0 : Int32)), (.ref v), (.ref x)])) _
    refine X0.arraylength hx (cell := cl101) (by rw [eE]; exact Ar101.1) (State.isArrayOf_alike hZ.alike Ar101.2.1) (g := (mkF mi 4 #[.val (.ref x), .val (.ref v)] [(.ref v), (.int (0 : Int32)), (.ref v), (.ref x)])) rfl (rest := [(.int (0 : Int32)), (.ref v), (.ref x)]) rfl (hb hby d_jdk_42_method_3_code_4) _ ?_
    rw [len_of Sz101 Nn101]
    show Steps pg.tables ev below (s₁.setTop (mkF mi 5 #[.val (.ref x), .val (.ref v)] [(.int (0 : Int32)), (.int (0 : Int32)), (.ref v), (.ref x)])) _
    refine XS.aconstNull X0.here hx rfl (hb hby d_jdk_42_method_3_code_5) ?_
    exact kk)
  obtain ⟨v102, _, ⟨T102, L102, k102, n102⟩, -, X102, s102, gr102, ⟨Lc102, hQ102, l102, y102, z102, c102⟩, st102⟩ := X0.specialBackS hx (y := mn4) rfl hown (mvT hZ (wd18 hw)) (mvT hZ (wd19 hw)) (mvT hZ (wd21 hw)) (by decide) (backOfSH (W := 0) (rm_siv0 la Z a0 hw [] x v kv hE n0 O P0_ P1_ P2_ P3_ g_x) hZ (wd21 hw) (wd13 hw) (by decide) (by decide) hEL C0.1) (g := (mkF mi 6 #[.val (.ref x), .val (.ref v)] [.null, (.int (0 : Int32)), (.int (0 : Int32)), (.ref v), (.ref x)])) rfl (by rw [hml]; rfl) (Steps.refl _) (a := x) (argsL := [(.ref v), (.int (0 : Int32)), (.int (0 : Int32)), .null]) (rest := []) (lenOf pd_3 rfl) rfl (by show 2 * 0 + _ ≤ _; exact Nat.le_of_eq rfl) (hb hby d_jdk_42_method_3_code_6) (fun _ _ => ⟨rfl, eE, (by decide : 0 + 4 ≤ _), (by decide : 0 + 8 ≤ _)⟩)
  dsimp only [Pt.U, Pt.locs, Pt.cells, Pt.slots] at X102 s102 gr102 l102 y102 z102 c102 st102 hQ102
  subst l102 y102 z102
  obtain ⟨X102, hS, hZ, hown⟩ := rebS hS (show _ ≤ s₁.heap.size by rw [eE]; exact hk) X102 s102 gr102 hZ hown
  have hk : T102.heap.size ≤ T102.heap.size := Nat.le_refl _
  obtain ⟨t_102, rfl, Nq102, Kq102, r102_0⟩ := hQ102
  have N102 := Fr.app N0 Nq102
  have ne_x_v : x ≠ v := Exa.neArv P0_ P3_ (wd12 hw)
  have C104 := CHr.trans C0 c102
  obtain ⟨fs, hr, hrun, hended, hWe⟩ := X102.leaveW hS (show _ ≤ T102.heap.size from hk) (v := none) (fun _ => rfl)
  refine ⟨_, _, pre103 _ ?_, hrun, hended, _, _, rfl, ?_, ?_, hWe.1, hWe.2.1, hWe.2.2.1, hWe.2.2.2.mono (by decide) (by decide)⟩
  · show Steps pg.tables ev below (s₁.setTop (mkF mi 6 #[.val (.ref x), .val (.ref v)] [.null, (.int (0 : Int32)), (.int (0 : Int32)), (.ref v), (.ref x)])) _
    refine st102.trans ?_
    show Steps pg.tables ev below (T102.setTop (mkF mi 9 #[.val (.ref x), .val (.ref v)] [])) _
    exact X102.returnOut hx Bd.returns (hb hby d_jdk_42_method_3_code_9) hr
  · show Q_sic0 Z x v kv hE n0 _ T102.heap _
    exact ⟨t_102, rfl, N102, ((Keep.refl hE [x]).trans Kq102 (allS (Or.inl (List.mem_of_getElem? (i := 0) rfl)) all0)), r102_0⟩
  · show CHr Z ELs sb.vm sb.heap T102.vm T102.heap
    rw [hh]
    exact CHr.trans C104 (CHv.at X102 hZ hEL C104.1)
def strF (n c0 c1 : Int32) : List Int32 := if n = (0 : Int32) then [] else if n = (1 : Int32) then [c0] else [c0, c1]
theorem d_method_3_code_0 : decode method_3_code 0 = .ok (.iload_n 0, 1) := by decide +kernel
theorem d_method_3_code_1 : decode method_3_code 1 = .ok (.ifCond .ne 14, 3) := by decide +kernel
theorem d_method_3_code_4 : decode method_3_code 4 = .ok (.new 64, 3) := by decide +kernel
theorem d_method_3_code_7 : decode method_3_code 7 = .ok (.dup, 1) := by decide +kernel
theorem d_method_3_code_8 : decode method_3_code 8 = .ok (.iconst 0, 1) := by decide +kernel
theorem d_method_3_code_9 : decode method_3_code 9 = .ok (.newarray .char, 2) := by decide +kernel
theorem d_method_3_code_11 : decode method_3_code 11 = .ok (.invokespecial 66, 3) := by decide +kernel
theorem d_method_3_code_14 : decode method_3_code 14 = .ok (.areturn, 1) := by decide +kernel
theorem d_method_3_code_15 : decode method_3_code 15 = .ok (.iload_n 0, 1) := by decide +kernel
theorem d_method_3_code_16 : decode method_3_code 16 = .ok (.iconst 1, 1) := by decide +kernel
theorem d_method_3_code_17 : decode method_3_code 17 = .ok (.if_icmp .ne 18, 3) := by decide +kernel
theorem d_method_3_code_20 : decode method_3_code 20 = .ok (.new 64, 3) := by decide +kernel
theorem d_method_3_code_23 : decode method_3_code 23 = .ok (.dup, 1) := by decide +kernel
theorem d_method_3_code_24 : decode method_3_code 24 = .ok (.iconst 1, 1) := by decide +kernel
theorem d_method_3_code_25 : decode method_3_code 25 = .ok (.newarray .char, 2) := by decide +kernel
theorem d_method_3_code_27 : decode method_3_code 27 = .ok (.dup, 1) := by decide +kernel
theorem d_method_3_code_28 : decode method_3_code 28 = .ok (.iconst 0, 1) := by decide +kernel
theorem d_method_3_code_29 : decode method_3_code 29 = .ok (.iload_n 1, 1) := by decide +kernel
theorem d_method_3_code_30 : decode method_3_code 30 = .ok (.castore, 1) := by decide +kernel
theorem d_method_3_code_31 : decode method_3_code 31 = .ok (.invokespecial 66, 3) := by decide +kernel
theorem d_method_3_code_34 : decode method_3_code 34 = .ok (.areturn, 1) := by decide +kernel
theorem d_method_3_code_35 : decode method_3_code 35 = .ok (.new 64, 3) := by decide +kernel
theorem d_method_3_code_38 : decode method_3_code 38 = .ok (.dup, 1) := by decide +kernel
theorem d_method_3_code_39 : decode method_3_code 39 = .ok (.iconst 2, 1) := by decide +kernel
theorem d_method_3_code_40 : decode method_3_code 40 = .ok (.newarray .char, 2) := by decide +kernel
theorem d_method_3_code_42 : decode method_3_code 42 = .ok (.dup, 1) := by decide +kernel
theorem d_method_3_code_43 : decode method_3_code 43 = .ok (.iconst 0, 1) := by decide +kernel
theorem d_method_3_code_44 : decode method_3_code 44 = .ok (.iload_n 1, 1) := by decide +kernel
theorem d_method_3_code_45 : decode method_3_code 45 = .ok (.castore, 1) := by decide +kernel
theorem d_method_3_code_46 : decode method_3_code 46 = .ok (.dup, 1) := by decide +kernel
theorem d_method_3_code_47 : decode method_3_code 47 = .ok (.iconst 1, 1) := by decide +kernel
theorem d_method_3_code_48 : decode method_3_code 48 = .ok (.iload_n 2, 1) := by decide +kernel
theorem d_method_3_code_49 : decode method_3_code 49 = .ok (.castore, 1) := by decide +kernel
theorem d_method_3_code_50 : decode method_3_code 50 = .ok (.invokespecial 66, 3) := by decide +kernel
theorem d_method_3_code_53 : decode method_3_code 53 = .ok (.areturn, 1) := by decide +kernel
theorem pd_4 : parseMethodDescriptor "([C)V" = some ⟨[(.array .char)], none⟩ := by decide +kernel
theorem ef_strc (mi : MethodId) (n : Int32) (c0 : Int32) (c1 : Int32) : entryFrame mi #[(.int n), (.int c0), (.int c1)] 3 = mkF mi 0 #[.val (.int n), .val (.int c0), .val (.int c1)] [] := by first | (simp [entryFrame, mkF, argsToLocals, Value.category]; done) | rfl
def Q_strc (Z : State) (n : Int32) (c0 : Int32) (c1 : Int32) (zc : Int32) (hE : Heap) (n0 : Nat) (vv : Option Value) (hh : Heap) (LL : List Loc) : Prop := ∃ x : Addr, ∃ t : Addr, (vv = some (.ref x)) ∧ (Fr n0 LL) ∧ (Keep hE hh []) ∧ (hE.size ≤ x) ∧ (LStr Z hh x t (strF n c0 c1))
set_option maxRecDepth 65536 in
set_option maxHeartbeats 40000000 in
theorem rm_strc (la : Launch) (Z : State) (a0 : Array Value) (hw : ∀ d ∈ tables_1, d.before a0 Z = true) (ws : List Jvm.Cond) (n : Int32) (c0 : Int32) (c1 : Int32) (zc : Int32) (hE : Heap) (n0 : Nat) (O : Old Z n0 hE) (D0_ : Sta Z Z.heap "java/lang/String" "COMPACT_STRINGS" "Z" (.int zc)) (hb0 : ¬ ((255 : Int32) < c0)) (hn0 : ¬ (c0 < (0 : Int32))) (hb1 : ¬ ((255 : Int32) < c1)) (hn1 : ¬ (c1 < (0 : Int32))) (hzc : ¬ (zc = (0 : Int32))) :
    MetFree la mn6 (head1 (Jvm.Cond.code mn6 method_3_code 3 (some (.object "java/lang/String")) :: ws) ({ frames := 4, cells := 6, slots := 12, locals := 66 } : Room)) (fun aa UU => aa = #[(.int n), (.int c0), (.int c1)] ∧ Z.Warmed39 UU.vm ∧ UU.heap = hE ∧ CHv Z ELs UU.vm hE) (fun _ _ _ _ _ => True) (fun _ UU oo UV => ∃ vv LL, oo = .returned vv ∧ Q_strc Z n c0 c1 zc hE n0 vv UV.heap LL ∧ CHr Z ELs UU.vm UU.heap UV.vm UV.heap ∧ ReturnedEndW UU oo UV LL ({ frames := 4, cells := 6, slots := 12, locals := 66 } : Room).cells ({ frames := 4, cells := 6, slots := 12, locals := 66 } : Room).slots) := by
  refine MetFree.of_bodySF (plainFor_of_name pn_com_example_endless_runs_endlessruns_hoa_TokenIsPinLaw) hisR ?_
  intro pg ev sb mi gs below me cd s₁ Bd hml0 hPt hKt
  obtain ⟨rfl, hZ, hh, hH⟩ := hPt
  have hx := Bd.exec
  have hby := Bd.bytes
  have hml : cd.maxLocals = 3 := hml0
  have hown : sb.vm.findClass "com/example/endless_runs/endlessruns/hoa/TokenIsPinLaw" = some mi.cls := findClass_of_methodNamed Bd.named
  have hnm := (name_of_methodNamed Bd.named Bd.method).1
  have X0 : Stand pg la ev ({ frames := 4, cells := 6, slots := 12, locals := 66 } : Room) (sb.setVm sb.vm) mi #[(.int n), (.int c0), (.int c1)] below me cd s₁ [] 0 0 := Stand.of_body Bd
  have eE : s₁.heap = hE := by rw [← hh, Bd.state]; rfl
  have N0 := Fr.nil n0
  have pre0 : ∀ tt, Steps pg.tables ev below (s₁.setTop (mkF mi 0 #[.val (.int n), .val (.int c0), .val (.int c1)] [])) tt → Steps pg.tables ev below (s₁.setTop (entryFrame mi #[(.int n), (.int c0), (.int c1)] 3)) tt := fun tt kk => castTop (ef_strc mi n c0 c1) kk
  have hS : sb.Since sb.vm 0 := (State.WarmedH.refl sb).since 0
  have hk : 0 ≤ hE.size := Nat.zero_le _
  have hEL := own_EW hw
  have C0 := CHr.refl hH
  have pre102 : ∀ tt, Steps pg.tables ev below (s₁.setTop (mkF mi 1 #[.val (.int n), .val (.int c0), .val (.int c1)] [(.int n)])) tt → Steps pg.tables ev below (s₁.setTop (entryFrame mi #[(.int n), (.int c0), (.int c1)] 3)) tt := fun tt kk => pre0 _ (by
    show Steps pg.tables ev below (s₁.setTop (mkF mi 0 #[.val (.int n), .val (.int c0), .val (.int c1)] [])) _
    refine XS.iloadN X0.here hx rfl (hb hby d_method_3_code_0) rfl ?_
    exact kk)
  by_cases hc101 : n = (0 : Int32)
  · obtain ⟨T103, h103, X103, e103, E103, A103, D103, -, st103⟩ := newO X0 hx hZ hown (wd11 hw) (wd12 hw) (wd13 hw) eE (g := (mkF mi 4 #[.val (.int n), .val (.int c0), .val (.int c1)] [])) rfl (hb hby d_method_3_code_4) (by decide) (by decide)
    obtain ⟨b103, q103⟩ : ∃ z, z = hE.size := ⟨_, rfl⟩
    rw [← q103] at A103 D103 st103
    have c104 := CHr.ext E103 C0.1
    have C105 := CHr.trans C0 c104
    have f106 : Fld Z h103 b103 "java/lang/String" "value" "[B" .null := D103 (Or.inr (wd27 hw)) (ty := (.array .byte)) (by decide)
    have f107 : Fld Z h103 b103 "java/lang/String" "coder" "B" (.int (0 : Int32)) := D103 (Or.inr (wd28 hw)) (ty := .byte) (by decide)
    obtain ⟨T108, h108, k108, X108, e108, E108, A108, st108⟩ := newP (aty := .char) X103 hx hZ (wd14 hw) e103 (g := (mkF mi 9 #[.val (.int n), .val (.int c0), .val (.int c1)] [(.int (0 : Int32)), (.ref b103), (.ref b103)])) rfl (hb hby d_method_3_code_9) rfl (by decide) (cap := 0) (by decide) (by decide) (by decide) (by decide)
    obtain ⟨b108, q108⟩ : ∃ z, z = h103.size := ⟨_, rfl⟩
    rw [← q108] at A108 st108
    have c109 := CHr.ext E108 C105.1
    have C110 := CHr.trans C105 c109
    have f111 : Arv Z h108 b108 k108 .char (0 : Int32) [] (.int (0 : Int32)) := Arv.new A108 (by decide)
    have O112 : Old Z n0 h108 := ((O.ext E103).ext E108)
    have f113 : Exa Z h108 b103 "java/lang/String" := (A103.ext E108)
    have f114 : Fld Z h108 b103 "java/lang/String" "value" "[B" .null := (f106.ext E108)
    have f115 : Fld Z h108 b103 "java/lang/String" "coder" "B" (.int (0 : Int32)) := (f107.ext E108)
    have g_b103 : n0 ≤ b103 := Nat.le_trans (Nat.le_trans (Nat.le_of_eq O.1.symm) O.2.1) (Nat.le_of_eq q103.symm)
    have pre117 : ∀ tt, Steps pg.tables ev below (T108.setTop (mkF mi 11 #[.val (.int n), .val (.int c0), .val (.int c1)] [(.ref b108), (.ref b103), (.ref b103)])) tt → Steps pg.tables ev below (s₁.setTop (entryFrame mi #[(.int n), (.int c0), (.int c1)] 3)) tt := fun tt kk => pre102 _ (by
      show Steps pg.tables ev below (s₁.setTop (mkF mi 1 #[.val (.int n), .val (.int c0), .val (.int c1)] [(.int n)])) _
      refine XS.ifNo X0.here hx rfl (hb hby d_method_3_code_1) rfl ((if0 _ _).trans (teq hc101).2) ?_
      show Steps pg.tables ev below (s₁.setTop (mkF mi 4 #[.val (.int n), .val (.int c0), .val (.int c1)] [])) _
      refine st103 _ ?_
      show Steps pg.tables ev below (T103.setTop (mkF mi 7 #[.val (.int n), .val (.int c0), .val (.int c1)] [(.ref b103)])) _
      refine XS.dup X103.here hx rfl (hb hby d_method_3_code_7) rfl rfl ?_
      show Steps pg.tables ev below (T103.setTop (mkF mi 8 #[.val (.int n), .val (.int c0), .val (.int c1)] [(.ref b103), (.ref b103)])) _
      refine XS.iconst X103.here hx rfl (hb hby d_method_3_code_8) ?_
      show Steps pg.tables ev below (T103.setTop (mkF mi 9 #[.val (.int n), .val (.int c0), .val (.int c1)] [(.int (0 : Int32)), (.ref b103), (.ref b103)])) _
      refine st108 _ ?_
      exact kk)
    obtain ⟨v116, _, ⟨T116, L116, k116, n116⟩, -, X116, s116, gr116, ⟨Lc116, hQ116, l116, y116, z116, c116⟩, st116⟩ := X108.specialBackS hx (y := mn5) rfl hown (mvT hZ (wd15 hw)) (mvT hZ (wd16 hw)) (mvT hZ (wd17 hw)) (by decide) (backOfSH (W := 1) (rm_sic0 la Z a0 hw [] b103 b108 k108 h108 n0 O112 f113 f114 f115 f111 g_b103) hZ (wd17 hw) (wd13 hw) (by decide) (by decide) hEL C110.1) (g := (mkF mi 11 #[.val (.int n), .val (.int c0), .val (.int c1)] [(.ref b108), (.ref b103), (.ref b103)])) rfl (by rw [hml]; rfl) (Steps.refl _) (a := b103) (argsL := [(.ref b108)]) (rest := [(.ref b103)]) (lenOf pd_4 rfl) rfl (by show 2 * 0 + _ ≤ _; exact Nat.le_of_eq rfl) (hb hby d_method_3_code_11) (fun _ _ => ⟨rfl, e108, (by decide : 2 + 4 ≤ _), (by decide : 4 + 8 ≤ _)⟩)
    dsimp only [Pt.U, Pt.locs, Pt.cells, Pt.slots] at X116 s116 gr116 l116 y116 z116 c116 st116 hQ116
    subst l116 y116 z116
    obtain ⟨X116, hS, hZ, hown⟩ := rebS hS (show _ ≤ T108.heap.size by rw [e108]; exact (Nat.le_trans hk (Nat.le_trans E103.1 E108.1))) X116 s116 gr116 hZ hown
    have hk : T116.heap.size ≤ T116.heap.size := Nat.le_refl _
    obtain ⟨t_116, rfl, Nq116, Kq116, r116_0⟩ := hQ116
    have N116 := Fr.app N0 Nq116
    have C118 := CHr.trans C110 c116
    have s119 : LStr Z T116.heap b103 t_116 (strF n c0 c1) := by rw [show strF n c0 c1 = ([] : List Int32) from by unfold strF; rw [if_pos hc101]]; exact r116_0
    obtain ⟨fs, hr, hrun, hended, hWe⟩ := X116.leaveW hS (show _ ≤ T116.heap.size from hk) (v := some (.ref b103)) (fun hq => by rw [Bd.returns] at hq; cases hq)
    refine ⟨_, _, pre117 _ ?_, hrun, hended, _, _, rfl, ?_, ?_, hWe.1, hWe.2.1, hWe.2.2.1, hWe.2.2.2.mono (by decide) (by decide)⟩
    · show Steps pg.tables ev below (T108.setTop (mkF mi 11 #[.val (.int n), .val (.int c0), .val (.int c1)] [(.ref b108), (.ref b103), (.ref b103)])) _
      refine st116.trans ?_
      show Steps pg.tables ev below (T116.setTop (mkF mi 14 #[.val (.int n), .val (.int c0), .val (.int c1)] [(.ref b103)])) _
      jvm_step X116.here [X116.here.top, hx, (hb hby d_method_3_code_14), X116.method', Bd.returns, Value.isRef, FieldType.isReference]
      first | (intro acts; rw [hr _ acts rfl rfl rfl]) | rw [hr _ _ rfl rfl rfl]
      exact Steps.refl _
    · show Q_strc Z n c0 c1 zc hE n0 _ T116.heap _
      exact ⟨b103, t_116, rfl, N116, ((((Keep.refl hE []).ext E103).ext E108).trans Kq116 (allS (Or.inr (Nat.le_of_eq q103.symm)) all0)), (Nat.le_of_eq q103.symm), s119⟩
    · show CHr Z ELs sb.vm sb.heap T116.vm T116.heap
      rw [hh]
      exact CHr.trans C118 (CHv.at X116 hZ hEL C118.1)
  · have pre121 : ∀ tt, Steps pg.tables ev below (s₁.setTop (mkF mi 17 #[.val (.int n), .val (.int c0), .val (.int c1)] [(.int (1 : Int32)), (.int n)])) tt → Steps pg.tables ev below (s₁.setTop (entryFrame mi #[(.int n), (.int c0), (.int c1)] 3)) tt := fun tt kk => pre102 _ (by
      show Steps pg.tables ev below (s₁.setTop (mkF mi 1 #[.val (.int n), .val (.int c0), .val (.int c1)] [(.int n)])) _
      refine XS.ifYes X0.here hx rfl (pc0 := 1) (pc' := 15) rfl (hb hby d_method_3_code_1) rfl ((if0 _ _).trans (feq hc101).2) (by decide) (by decide) ?_
      show Steps pg.tables ev below (s₁.setTop (mkF mi 15 #[.val (.int n), .val (.int c0), .val (.int c1)] [])) _
      refine XS.iloadN X0.here hx rfl (hb hby d_method_3_code_15) rfl ?_
      show Steps pg.tables ev below (s₁.setTop (mkF mi 16 #[.val (.int n), .val (.int c0), .val (.int c1)] [(.int n)])) _
      refine XS.iconst X0.here hx rfl (hb hby d_method_3_code_16) ?_
      exact kk)
    by_cases hc120 : n = (1 : Int32)
    · obtain ⟨T122, h122, X122, e122, E122, A122, D122, -, st122⟩ := newO X0 hx hZ hown (wd11 hw) (wd12 hw) (wd13 hw) eE (g := (mkF mi 20 #[.val (.int n), .val (.int c0), .val (.int c1)] [])) rfl (hb hby d_method_3_code_20) (by decide) (by decide)
      obtain ⟨b122, q122⟩ : ∃ z, z = hE.size := ⟨_, rfl⟩
      rw [← q122] at A122 D122 st122
      have c123 := CHr.ext E122 C0.1
      have C124 := CHr.trans C0 c123
      have f125 : Fld Z h122 b122 "java/lang/String" "value" "[B" .null := D122 (Or.inr (wd27 hw)) (ty := (.array .byte)) (by decide)
      have f126 : Fld Z h122 b122 "java/lang/String" "coder" "B" (.int (0 : Int32)) := D122 (Or.inr (wd28 hw)) (ty := .byte) (by decide)
      obtain ⟨T127, h127, k127, X127, e127, E127, A127, st127⟩ := newP (aty := .char) X122 hx hZ (wd14 hw) e122 (g := (mkF mi 25 #[.val (.int n), .val (.int c0), .val (.int c1)] [(.int (1 : Int32)), (.ref b122), (.ref b122)])) rfl (hb hby d_method_3_code_25) rfl (by decide) (cap := 1) (by decide) (by decide) (by decide) (by decide)
      obtain ⟨b127, q127⟩ : ∃ z, z = h122.size := ⟨_, rfl⟩
      rw [← q127] at A127 st127
      have c128 := CHr.ext E127 C124.1
      have C129 := CHr.trans C124 c128
      have f130 : Arv Z h127 b127 k127 .char (1 : Int32) [(.int (0 : Int32))] (.int (0 : Int32)) := (Arv.new A127 (by decide)).pad (pad_rep [] (.int (0 : Int32)) 1)
      obtain ⟨cl131, Ar131, qq131, Sz131, Nn131, Hh131, Gg131⟩ := id f130
      have hin131 : ¬ ((0 : Int32) < 0 ∨ cl131.slots.size ≤ ((0 : Int32)).toNatClampNeg) := inb_of Sz131 ⟨by decide, by decide⟩
      obtain ⟨T131, h131, X131, e131, W131, st131⟩ := stC X127 hx hZ e127 Ar131 (j := (0 : Int32)) hin131 (g := (mkF mi 30 #[.val (.int n), .val (.int c0), .val (.int c1)] [(.int c0), (.int (0 : Int32)), (.ref b127), (.ref b127), (.ref b122), (.ref b122)])) rfl rfl (hb hby d_method_3_code_30)
      have O132 : Old Z n0 h122 := (O.ext E122)
      have g_b127 : n0 ≤ b127 := Nat.le_trans (Nat.le_trans (Nat.le_of_eq O132.1.symm) O132.2.1) (Nat.le_of_eq q127.symm)
      have N131 := Fr.snoc X131 N0 g_b127
      have c134 := CHr.keep (Keep.of_wr W131) (sfS (Safe.arv hZ.alike f130 (by decide)) sf0) C129.1
      have C135 := CHr.trans C129 c134
      have f133 : Arv Z h131 b127 k127 .char (1 : Int32) [(.int (nar .char c0))] (.int (0 : Int32)) := Arv.set Ar131 qq131 Sz131 Nn131 Hh131 Gg131 (fits_nar_char _) W131 0 rfl (Nat.le_of_ble_eq_true rfl)
      have f136 : Arv Z h131 b127 k127 .char (1 : Int32) [(.int c0)] (.int (0 : Int32)) := by have hq := f133; rw [own_nar_c ⟨hn0, hb0⟩] at hq; exact hq
      have O137 : Old Z n0 h131 := ((O132.ext E127).keep (Keep.of_wr W131) (allS g_b127 all0))
      have f138 : Exa Z h131 b122 "java/lang/String" := ((A122.ext E127).keep (Keep.of_wr W131))
      have ne_b122_b127 : b122 ≠ b127 := Nat.ne_of_lt (Nat.lt_of_lt_of_le A122.lt (Nat.le_trans (Nat.le_refl _) (Nat.le_of_eq q127.symm)))
      have f139 : Fld Z h131 b122 "java/lang/String" "value" "[B" .null := ((f125.ext E127).keep (Keep.of_wr W131) (ninS ne_b122_b127 nin0))
      have f140 : Fld Z h131 b122 "java/lang/String" "coder" "B" (.int (0 : Int32)) := ((f126.ext E127).keep (Keep.of_wr W131) (ninS ne_b122_b127 nin0))
      have g_b122 : n0 ≤ b122 := Nat.le_trans (Nat.le_trans (Nat.le_of_eq O.1.symm) O.2.1) (Nat.le_of_eq q122.symm)
      obtain ⟨v141, _, ⟨T141, L141, k141, n141⟩, -, X141, ⟨Lc141, hQ141, l141, y141, z141⟩, st141⟩ := X131.specialBack hx (y := mn5) rfl hown (mvT hZ (wd15 hw)) (mvT hZ (wd16 hw)) (mvT hZ (wd17 hw)) (by decide) (backOf (W := 1) (rm_sic1 la Z a0 hw [] b122 b127 k127 zc c0 h131 n0 O137 f138 f139 f140 f136 D0_ g_b122 (Ne.symm ne_b122_b127) (hb0 : ¬ ((255 : Int32) < c0)) (hn0 : ¬ (c0 < (0 : Int32))) (hzc : ¬ (zc = (0 : Int32)))) hZ (wd17 hw) (wd13 hw) (by decide) (by decide)) (g := (mkF mi 31 #[.val (.int n), .val (.int c0), .val (.int c1)] [(.ref b127), (.ref b122), (.ref b122)])) rfl (by rw [hml]; rfl) (Steps.refl _) (a := b122) (argsL := [(.ref b127)]) (rest := [(.ref b122)]) (lenOf pd_4 rfl) rfl (by show 2 * 0 + _ ≤ _; exact Nat.le_of_eq rfl) (hb hby d_method_3_code_31) (fun _ _ => ⟨rfl, e131, (by decide : 2 + 1 ≤ _), (by decide : 5 + 1 ≤ _)⟩)
      dsimp only [Pt.U, Pt.locs, Pt.cells, Pt.slots] at X141 l141 y141 z141 st141 hQ141
      subst l141 y141 z141
      obtain ⟨t_141, rfl, Nq141, Kq141, fr_t_141, r141_0⟩ := hQ141
      have N141 := Fr.app N131 Nq141
      have sf143 : Safe Z ELs _ h131 b122 := (c134.safe (Nat.lt_of_lt_of_le A122.lt E127.1) (c128.safe A122.lt (Safe.ext E122 C0.1 (Safe.new (Nat.le_of_eq q122.symm)))))
      have c142 := CHr.keep Kq141 (sfS sf143 sf0) C135.1
      have C144 := CHr.trans C135 c142
      have s145 : LStr Z T141.heap b122 t_141 (strF n c0 c1) := by rw [show strF n c0 c1 = ([c0] : List Int32) from by unfold strF; rw [if_neg hc101, if_pos hc120]]; exact r141_0
      obtain ⟨fs, hr, hrun, hended, hWe⟩ := X141.leaveW hS (show _ ≤ T141.heap.size from (Nat.le_trans hk (Nat.le_trans (Nat.le_trans (Nat.le_trans E122.1 E127.1) (Keep.of_wr W131).1) Kq141.1))) (v := some (.ref b122)) (fun hq => by rw [Bd.returns] at hq; cases hq)
      refine ⟨_, _, pre121 _ ?_, hrun, hended, _, _, rfl, ?_, ?_, hWe.1, hWe.2.1, hWe.2.2.1, hWe.2.2.2.mono (by decide) (by decide)⟩
      · show Steps pg.tables ev below (s₁.setTop (mkF mi 17 #[.val (.int n), .val (.int c0), .val (.int c1)] [(.int (1 : Int32)), (.int n)])) _
        refine XS.icmpNo X0.here hx rfl (hb hby d_method_3_code_17) rfl (teq hc120).2 ?_
        show Steps pg.tables ev below (s₁.setTop (mkF mi 20 #[.val (.int n), .val (.int c0), .val (.int c1)] [])) _
        refine st122 _ ?_
        show Steps pg.tables ev below (T122.setTop (mkF mi 23 #[.val (.int n), .val (.int c0), .val (.int c1)] [(.ref b122)])) _
        refine XS.dup X122.here hx rfl (hb hby d_method_3_code_23) rfl rfl ?_
        show Steps pg.tables ev below (T122.setTop (mkF mi 24 #[.val (.int n), .val (.int c0), .val (.int c1)] [(.ref b122), (.ref b122)])) _
        refine XS.iconst X122.here hx rfl (hb hby d_method_3_code_24) ?_
        show Steps pg.tables ev below (T122.setTop (mkF mi 25 #[.val (.int n), .val (.int c0), .val (.int c1)] [(.int (1 : Int32)), (.ref b122), (.ref b122)])) _
        refine st127 _ ?_
        show Steps pg.tables ev below (T127.setTop (mkF mi 27 #[.val (.int n), .val (.int c0), .val (.int c1)] [(.ref b127), (.ref b122), (.ref b122)])) _
        refine XS.dup X127.here hx rfl (hb hby d_method_3_code_27) rfl rfl ?_
        show Steps pg.tables ev below (T127.setTop (mkF mi 28 #[.val (.int n), .val (.int c0), .val (.int c1)] [(.ref b127), (.ref b127), (.ref b122), (.ref b122)])) _
        refine XS.iconst X127.here hx rfl (hb hby d_method_3_code_28) ?_
        show Steps pg.tables ev below (T127.setTop (mkF mi 29 #[.val (.int n), .val (.int c0), .val (.int c1)] [(.int (0 : Int32)), (.ref b127), (.ref b127), (.ref b122), (.ref b122)])) _
        refine XS.iloadN X127.here hx rfl (hb hby d_method_3_code_29) rfl ?_
        show Steps pg.tables ev below (T127.setTop (mkF mi 30 #[.val (.int n), .val (.int c0), .val (.int c1)] [(.int c0), (.int (0 : Int32)), (.ref b127), (.ref b127), (.ref b122), (.ref b122)])) _
        refine st131 _ ?_
        show Steps pg.tables ev below (T131.setTop (mkF mi 31 #[.val (.int n), .val (.int c0), .val (.int c1)] [(.ref b127), (.ref b122), (.ref b122)])) _
        refine st141.trans ?_
        show Steps pg.tables ev below (T141.setTop (mkF mi 34 #[.val (.int n), .val (.int c0), .val (.int c1)] [(.ref b122)])) _
        jvm_step X141.here [X141.here.top, hx, (hb hby d_method_3_code_34), X141.method', Bd.returns, Value.isRef, FieldType.isReference]
        first | (intro acts; rw [hr _ acts rfl rfl rfl]) | rw [hr _ _ rfl rfl rfl]
        exact Steps.refl _
      · show Q_strc Z n c0 c1 zc hE n0 _ T141.heap _
        exact ⟨b122, t_141, rfl, N141, (((((Keep.refl hE []).ext E122).ext E127).trans (Keep.of_wr W131) (allS (Or.inr (Nat.le_trans E122.1 (Nat.le_of_eq q127.symm))) all0)).trans Kq141 (allS (Or.inr (Nat.le_of_eq q122.symm)) all0)), (Nat.le_of_eq q122.symm), s145⟩
      · show CHr Z ELs sb.vm sb.heap T141.vm T141.heap
        rw [hh]
        exact CHr.trans C144 (CHv.at X141 hZ hEL C144.1)
    · obtain ⟨T146, h146, X146, e146, E146, A146, D146, -, st146⟩ := newO X0 hx hZ hown (wd11 hw) (wd12 hw) (wd13 hw) eE (g := (mkF mi 35 #[.val (.int n), .val (.int c0), .val (.int c1)] [])) rfl (hb hby d_method_3_code_35) (by decide) (by decide)
      obtain ⟨b146, q146⟩ : ∃ z, z = hE.size := ⟨_, rfl⟩
      rw [← q146] at A146 D146 st146
      have c147 := CHr.ext E146 C0.1
      have C148 := CHr.trans C0 c147
      have f149 : Fld Z h146 b146 "java/lang/String" "value" "[B" .null := D146 (Or.inr (wd27 hw)) (ty := (.array .byte)) (by decide)
      have f150 : Fld Z h146 b146 "java/lang/String" "coder" "B" (.int (0 : Int32)) := D146 (Or.inr (wd28 hw)) (ty := .byte) (by decide)
      obtain ⟨T151, h151, k151, X151, e151, E151, A151, st151⟩ := newP (aty := .char) X146 hx hZ (wd14 hw) e146 (g := (mkF mi 40 #[.val (.int n), .val (.int c0), .val (.int c1)] [(.int (2 : Int32)), (.ref b146), (.ref b146)])) rfl (hb hby d_method_3_code_40) rfl (by decide) (cap := 2) (by decide) (by decide) (by decide) (by decide)
      obtain ⟨b151, q151⟩ : ∃ z, z = h146.size := ⟨_, rfl⟩
      rw [← q151] at A151 st151
      have c152 := CHr.ext E151 C148.1
      have C153 := CHr.trans C148 c152
      have f154 : Arv Z h151 b151 k151 .char (2 : Int32) [(.int (0 : Int32)), (.int (0 : Int32))] (.int (0 : Int32)) := (Arv.new A151 (by decide)).pad (pad_rep [] (.int (0 : Int32)) 2)
      obtain ⟨cl155, Ar155, qq155, Sz155, Nn155, Hh155, Gg155⟩ := id f154
      have hin155 : ¬ ((0 : Int32) < 0 ∨ cl155.slots.size ≤ ((0 : Int32)).toNatClampNeg) := inb_of Sz155 ⟨by decide, by decide⟩
      obtain ⟨T155, h155, X155, e155, W155, st155⟩ := stC X151 hx hZ e151 Ar155 (j := (0 : Int32)) hin155 (g := (mkF mi 45 #[.val (.int n), .val (.int c0), .val (.int c1)] [(.int c0), (.int (0 : Int32)), (.ref b151), (.ref b151), (.ref b146), (.ref b146)])) rfl rfl (hb hby d_method_3_code_45)
      have O156 : Old Z n0 h146 := (O.ext E146)
      have g_b151 : n0 ≤ b151 := Nat.le_trans (Nat.le_trans (Nat.le_of_eq O156.1.symm) O156.2.1) (Nat.le_of_eq q151.symm)
      have N155 := Fr.snoc X155 N0 g_b151
      have c158 := CHr.keep (Keep.of_wr W155) (sfS (Safe.arv hZ.alike f154 (by decide)) sf0) C153.1
      have C159 := CHr.trans C153 c158
      have f157 : Arv Z h155 b151 k151 .char (2 : Int32) [(.int (nar .char c0)), (.int (0 : Int32))] (.int (0 : Int32)) := Arv.set Ar155 qq155 Sz155 Nn155 Hh155 Gg155 (fits_nar_char _) W155 0 rfl (Nat.le_of_ble_eq_true rfl)
      have f160 : Arv Z h155 b151 k151 .char (2 : Int32) [(.int c0), (.int (0 : Int32))] (.int (0 : Int32)) := by have hq := f157; rw [own_nar_c ⟨hn0, hb0⟩] at hq; exact hq
      obtain ⟨cl161, Ar161, qq161, Sz161, Nn161, Hh161, Gg161⟩ := id f160
      have hin161 : ¬ ((1 : Int32) < 0 ∨ cl161.slots.size ≤ ((1 : Int32)).toNatClampNeg) := inb_of Sz161 ⟨by decide, by decide⟩
      obtain ⟨T161, h161, X161, e161, W161, st161⟩ := stC X155 hx hZ e155 Ar161 (j := (1 : Int32)) hin161 (g := (mkF mi 49 #[.val (.int n), .val (.int c0), .val (.int c1)] [(.int c1), (.int (1 : Int32)), (.ref b151), (.ref b151), (.ref b146), (.ref b146)])) rfl rfl (hb hby d_method_3_code_49)
      have N161 := Fr.snoc X161 N155 g_b151
      have c163 := CHr.keep (Keep.of_wr W161) (sfS (Safe.arv hZ.alike f160 (by decide)) sf0) C159.1
      have C164 := CHr.trans C159 c163
      have f162 : Arv Z h161 b151 k151 .char (2 : Int32) [(.int c0), (.int (nar .char c1))] (.int (0 : Int32)) := Arv.set Ar161 qq161 Sz161 Nn161 Hh161 Gg161 (fits_nar_char _) W161 1 rfl (Nat.le_of_ble_eq_true rfl)
      have f165 : Arv Z h161 b151 k151 .char (2 : Int32) [(.int c0), (.int c1)] (.int (0 : Int32)) := by have hq := f162; rw [own_nar_c ⟨hn1, hb1⟩] at hq; exact hq
      have O166 : Old Z n0 h161 := (((O156.ext E151).keep (Keep.of_wr W155) (allS g_b151 all0)).keep (Keep.of_wr W161) (allS g_b151 all0))
      have f167 : Exa Z h161 b146 "java/lang/String" := (((A146.ext E151).keep (Keep.of_wr W155)).keep (Keep.of_wr W161))
      have ne_b146_b151 : b146 ≠ b151 := Nat.ne_of_lt (Nat.lt_of_lt_of_le A146.lt (Nat.le_trans (Nat.le_refl _) (Nat.le_of_eq q151.symm)))
      have f168 : Fld Z h161 b146 "java/lang/String" "value" "[B" .null := (((f149.ext E151).keep (Keep.of_wr W155) (ninS ne_b146_b151 nin0)).keep (Keep.of_wr W161) (ninS ne_b146_b151 nin0))
      have f169 : Fld Z h161 b146 "java/lang/String" "coder" "B" (.int (0 : Int32)) := (((f150.ext E151).keep (Keep.of_wr W155) (ninS ne_b146_b151 nin0)).keep (Keep.of_wr W161) (ninS ne_b146_b151 nin0))
      have g_b146 : n0 ≤ b146 := Nat.le_trans (Nat.le_trans (Nat.le_of_eq O.1.symm) O.2.1) (Nat.le_of_eq q146.symm)
      obtain ⟨v170, _, ⟨T170, L170, k170, n170⟩, -, X170, ⟨Lc170, hQ170, l170, y170, z170⟩, st170⟩ := X161.specialBack hx (y := mn5) rfl hown (mvT hZ (wd15 hw)) (mvT hZ (wd16 hw)) (mvT hZ (wd17 hw)) (by decide) (backOf (W := 1) (rm_sic2 la Z a0 hw [] b146 b151 k151 zc c0 c1 h161 n0 O166 f167 f168 f169 f165 D0_ g_b146 (Ne.symm ne_b146_b151) (hb0 : ¬ ((255 : Int32) < c0)) (hb1 : ¬ ((255 : Int32) < c1)) (hn0 : ¬ (c0 < (0 : Int32))) (hn1 : ¬ (c1 < (0 : Int32))) (hzc : ¬ (zc = (0 : Int32)))) hZ (wd17 hw) (wd13 hw) (by decide) (by decide)) (g := (mkF mi 50 #[.val (.int n), .val (.int c0), .val (.int c1)] [(.ref b151), (.ref b146), (.ref b146)])) rfl (by rw [hml]; rfl) (Steps.refl _) (a := b146) (argsL := [(.ref b151)]) (rest := [(.ref b146)]) (lenOf pd_4 rfl) rfl (by show 2 * 0 + _ ≤ _; exact Nat.le_of_eq rfl) (hb hby d_method_3_code_50) (fun _ _ => ⟨rfl, e161, (by decide : 2 + 1 ≤ _), (by decide : 6 + 2 ≤ _)⟩)
      dsimp only [Pt.U, Pt.locs, Pt.cells, Pt.slots] at X170 l170 y170 z170 st170 hQ170
      subst l170 y170 z170
      obtain ⟨t_170, rfl, Nq170, Kq170, fr_t_170, r170_0⟩ := hQ170
      have N170 := Fr.app N161 Nq170
      have sf172 : Safe Z ELs _ h161 b146 := (c163.safe (Nat.lt_of_lt_of_le A146.lt (Nat.le_trans E151.1 (Keep.of_wr W155).1)) (c158.safe (Nat.lt_of_lt_of_le A146.lt E151.1) (c152.safe A146.lt (Safe.ext E146 C0.1 (Safe.new (Nat.le_of_eq q146.symm))))))
      have c171 := CHr.keep Kq170 (sfS sf172 sf0) C164.1
      have C173 := CHr.trans C164 c171
      have s174 : LStr Z T170.heap b146 t_170 (strF n c0 c1) := by rw [show strF n c0 c1 = ([c0, c1] : List Int32) from by unfold strF; rw [if_neg hc101, if_neg hc120]]; exact r170_0
      obtain ⟨fs, hr, hrun, hended, hWe⟩ := X170.leaveW hS (show _ ≤ T170.heap.size from (Nat.le_trans hk (Nat.le_trans (Nat.le_trans (Nat.le_trans (Nat.le_trans E146.1 E151.1) (Keep.of_wr W155).1) (Keep.of_wr W161).1) Kq170.1))) (v := some (.ref b146)) (fun hq => by rw [Bd.returns] at hq; cases hq)
      refine ⟨_, _, pre121 _ ?_, hrun, hended, _, _, rfl, ?_, ?_, hWe.1, hWe.2.1, hWe.2.2.1, hWe.2.2.2.mono (by decide) (by decide)⟩
      · show Steps pg.tables ev below (s₁.setTop (mkF mi 17 #[.val (.int n), .val (.int c0), .val (.int c1)] [(.int (1 : Int32)), (.int n)])) _
        refine XS.icmpYes X0.here hx rfl (pc0 := 17) (pc' := 35) rfl (hb hby d_method_3_code_17) rfl (feq hc120).2 (by decide) (by decide) ?_
        show Steps pg.tables ev below (s₁.setTop (mkF mi 35 #[.val (.int n), .val (.int c0), .val (.int c1)] [])) _
        refine st146 _ ?_
        show Steps pg.tables ev below (T146.setTop (mkF mi 38 #[.val (.int n), .val (.int c0), .val (.int c1)] [(.ref b146)])) _
        refine XS.dup X146.here hx rfl (hb hby d_method_3_code_38) rfl rfl ?_
        show Steps pg.tables ev below (T146.setTop (mkF mi 39 #[.val (.int n), .val (.int c0), .val (.int c1)] [(.ref b146), (.ref b146)])) _
        refine XS.iconst X146.here hx rfl (hb hby d_method_3_code_39) ?_
        show Steps pg.tables ev below (T146.setTop (mkF mi 40 #[.val (.int n), .val (.int c0), .val (.int c1)] [(.int (2 : Int32)), (.ref b146), (.ref b146)])) _
        refine st151 _ ?_
        show Steps pg.tables ev below (T151.setTop (mkF mi 42 #[.val (.int n), .val (.int c0), .val (.int c1)] [(.ref b151), (.ref b146), (.ref b146)])) _
        refine XS.dup X151.here hx rfl (hb hby d_method_3_code_42) rfl rfl ?_
        show Steps pg.tables ev below (T151.setTop (mkF mi 43 #[.val (.int n), .val (.int c0), .val (.int c1)] [(.ref b151), (.ref b151), (.ref b146), (.ref b146)])) _
        refine XS.iconst X151.here hx rfl (hb hby d_method_3_code_43) ?_
        show Steps pg.tables ev below (T151.setTop (mkF mi 44 #[.val (.int n), .val (.int c0), .val (.int c1)] [(.int (0 : Int32)), (.ref b151), (.ref b151), (.ref b146), (.ref b146)])) _
        refine XS.iloadN X151.here hx rfl (hb hby d_method_3_code_44) rfl ?_
        show Steps pg.tables ev below (T151.setTop (mkF mi 45 #[.val (.int n), .val (.int c0), .val (.int c1)] [(.int c0), (.int (0 : Int32)), (.ref b151), (.ref b151), (.ref b146), (.ref b146)])) _
        refine st155 _ ?_
        show Steps pg.tables ev below (T155.setTop (mkF mi 46 #[.val (.int n), .val (.int c0), .val (.int c1)] [(.ref b151), (.ref b146), (.ref b146)])) _
        refine XS.dup X155.here hx rfl (hb hby d_method_3_code_46) rfl rfl ?_
        show Steps pg.tables ev below (T155.setTop (mkF mi 47 #[.val (.int n), .val (.int c0), .val (.int c1)] [(.ref b151), (.ref b151), (.ref b146), (.ref b146)])) _
        refine XS.iconst X155.here hx rfl (hb hby d_method_3_code_47) ?_
        show Steps pg.tables ev below (T155.setTop (mkF mi 48 #[.val (.int n), .val (.int c0), .val (.int c1)] [(.int (1 : Int32)), (.ref b151), (.ref b151), (.ref b146), (.ref b146)])) _
        refine XS.iloadN X155.here hx rfl (hb hby d_method_3_code_48) rfl ?_
        show Steps pg.tables ev below (T155.setTop (mkF mi 49 #[.val (.int n), .val (.int c0), .val (.int c1)] [(.int c1), (.int (1 : Int32)), (.ref b151), (.ref b151), (.ref b146), (.ref b146)])) _
        refine st161 _ ?_
        show Steps pg.tables ev below (T161.setTop (mkF mi 50 #[.val (.int n), .val (.int c0), .val (.int c1)] [(.ref b151), (.ref b146), (.ref b146)])) _
        refine st170.trans ?_
        show Steps pg.tables ev below (T170.setTop (mkF mi 53 #[.val (.int n), .val (.int c0), .val (.int c1)] [(.ref b146)])) _
        jvm_step X170.here [X170.here.top, hx, (hb hby d_method_3_code_53), X170.method', Bd.returns, Value.isRef, FieldType.isReference]
        first | (intro acts; rw [hr _ acts rfl rfl rfl]) | rw [hr _ _ rfl rfl rfl]
        exact Steps.refl _
      · show Q_strc Z n c0 c1 zc hE n0 _ T170.heap _
        exact ⟨b146, t_170, rfl, N170, ((((((Keep.refl hE []).ext E146).ext E151).trans (Keep.of_wr W155) (allS (Or.inr (Nat.le_trans E146.1 (Nat.le_of_eq q151.symm))) all0)).trans (Keep.of_wr W161) (allS (Or.inr (Nat.le_trans E146.1 (Nat.le_of_eq q151.symm))) all0)).trans Kq170 (allS (Or.inr (Nat.le_of_eq q146.symm)) all0)), (Nat.le_of_eq q146.symm), s174⟩
      · show CHr Z ELs sb.vm sb.heap T170.vm T170.heap
        rw [hh]
        exact CHr.trans C173 (CHv.at X170 hZ hEL C173.1)
theorem d_prog_74_method_1_code_0 : decode prog_74_method_1_code 0 = .ok (.aload_n 0, 1) := by decide +kernel
theorem d_prog_74_method_1_code_1 : decode prog_74_method_1_code 1 = .ok (.invokespecial 1, 3) := by decide +kernel
theorem d_prog_74_method_1_code_4 : decode prog_74_method_1_code 4 = .ok (.aload_n 0, 1) := by decide +kernel
theorem d_prog_74_method_1_code_5 : decode prog_74_method_1_code 5 = .ok (.aload_n 1, 1) := by decide +kernel
theorem d_prog_74_method_1_code_6 : decode prog_74_method_1_code 6 = .ok (.putfield 7, 3) := by decide +kernel
theorem d_prog_74_method_1_code_9 : decode prog_74_method_1_code 9 = .ok (.aload_n 0, 1) := by decide +kernel
theorem d_prog_74_method_1_code_10 : decode prog_74_method_1_code 10 = .ok (.aload_n 2, 1) := by decide +kernel
theorem d_prog_74_method_1_code_11 : decode prog_74_method_1_code 11 = .ok (.putfield 13, 3) := by decide +kernel
theorem d_prog_74_method_1_code_14 : decode prog_74_method_1_code 14 = .ok (.aload_n 0, 1) := by decide +kernel
theorem d_prog_74_method_1_code_15 : decode prog_74_method_1_code 15 = .ok (.iload_n 3, 1) := by decide +kernel
theorem d_prog_74_method_1_code_16 : decode prog_74_method_1_code 16 = .ok (.putfield 17, 3) := by decide +kernel
theorem d_prog_74_method_1_code_19 : decode prog_74_method_1_code 19 = .ok (.aload_n 0, 1) := by decide +kernel
theorem d_prog_74_method_1_code_20 : decode prog_74_method_1_code 20 = .ok (.iload 4, 2) := by decide +kernel
theorem d_prog_74_method_1_code_22 : decode prog_74_method_1_code 22 = .ok (.putfield 21, 3) := by decide +kernel
theorem d_prog_74_method_1_code_25 : decode prog_74_method_1_code 25 = .ok (.aload_n 0, 1) := by decide +kernel
theorem d_prog_74_method_1_code_26 : decode prog_74_method_1_code 26 = .ok (.iload 5, 2) := by decide +kernel
theorem d_prog_74_method_1_code_28 : decode prog_74_method_1_code 28 = .ok (.putfield 24, 3) := by decide +kernel
theorem d_prog_74_method_1_code_31 : decode prog_74_method_1_code 31 = .ok (.return_, 1) := by decide +kernel
theorem pn_com_example_endless_runs_endlessruns_hoa_HoaLexer_Token : plainName "com/example/endless_runs/endlessruns/hoa/HoaLexer$Token" = true := by first | (simp [plainName, overriddenIn]; done) | decide +kernel
theorem ef_tin (mi : MethodId) (a : Addr) (k : Addr) (x : Addr) (u : Int32) (v : Int32) (w : Int32) : entryFrame mi #[(.ref a), (.ref k), (.ref x), (.int u), (.int v), (.int w)] 6 = mkF mi 0 #[.val (.ref a), .val (.ref k), .val (.ref x), .val (.int u), .val (.int v), .val (.int w)] [] := by first | (simp [entryFrame, mkF, argsToLocals, Value.category]; done) | rfl
def Q_tin (Z : State) (a : Addr) (k : Addr) (x : Addr) (u : Int32) (v : Int32) (w : Int32) (hE : Heap) (n0 : Nat) (vv : Option Value) (hh : Heap) (LL : List Loc) : Prop := (vv = none) ∧ (Fr n0 LL) ∧ (Keep hE hh [a]) ∧ (Exa Z hh a "com/example/endless_runs/endlessruns/hoa/HoaLexer$Token") ∧ (Fld Z hh a "com/example/endless_runs/endlessruns/hoa/HoaLexer$Token" "kind" "Lcom/example/endless_runs/endlessruns/hoa/HoaLexer$Kind;" (.ref k)) ∧ (Fld Z hh a "com/example/endless_runs/endlessruns/hoa/HoaLexer$Token" "text" "Ljava/lang/String;" (.ref x))
set_option maxRecDepth 65536 in
set_option maxHeartbeats 40000000 in
theorem rm_tin (la : Launch) (Z : State) (a0 : Array Value) (hw : ∀ d ∈ tables_1, d.before a0 Z = true) (ws : List Jvm.Cond) (a : Addr) (k : Addr) (x : Addr) (u : Int32) (v : Int32) (w : Int32) (hE : Heap) (n0 : Nat) (O : Old Z n0 hE) (P0_ : Exa Z hE a "com/example/endless_runs/endlessruns/hoa/HoaLexer$Token") (P1_ : Fld Z hE a "com/example/endless_runs/endlessruns/hoa/HoaLexer$Token" "kind" "Lcom/example/endless_runs/endlessruns/hoa/HoaLexer$Kind;" .null) (P2_ : Fld Z hE a "com/example/endless_runs/endlessruns/hoa/HoaLexer$Token" "text" "Ljava/lang/String;" .null) (P3_ : Fld Z hE a "com/example/endless_runs/endlessruns/hoa/HoaLexer$Token" "value" "I" (.int (0 : Int32))) (P4_ : Fld Z hE a "com/example/endless_runs/endlessruns/hoa/HoaLexer$Token" "automaton" "I" (.int (0 : Int32))) (P5_ : Fld Z hE a "com/example/endless_runs/endlessruns/hoa/HoaLexer$Token" "line" "I" (.int (0 : Int32))) (g_a : n0 ≤ a) :
    MetFree la mn7 (head1 (Jvm.Cond.code mn7 prog_74_method_1_code 6 none :: ws) ({ frames := 1, cells := 0, slots := 0, locals := 12 } : Room)) (fun aa UU => aa = #[(.ref a), (.ref k), (.ref x), (.int u), (.int v), (.int w)] ∧ Z.Warmed39 UU.vm ∧ UU.heap = hE) (fun _ _ _ _ _ => True) (fun _ UU oo UV => ∃ vv LL, oo = .returned vv ∧ Q_tin Z a k x u v w hE n0 vv UV.heap LL ∧ FrameEnd UU oo UV LL ({ frames := 1, cells := 0, slots := 0, locals := 12 } : Room).cells ({ frames := 1, cells := 0, slots := 0, locals := 12 } : Room).slots) := by
  refine MetFree.of_bodySF (plainFor_of_name pn_com_example_endless_runs_endlessruns_hoa_HoaLexer_Token) hisR ?_
  intro pg ev sb mi gs below me cd s₁ Bd hml0 hPt hKt
  obtain ⟨rfl, hZ, hh⟩ := hPt
  have hx := Bd.exec
  have hby := Bd.bytes
  have hml : cd.maxLocals = 6 := hml0
  have hown : sb.vm.findClass "com/example/endless_runs/endlessruns/hoa/HoaLexer$Token" = some mi.cls := findClass_of_methodNamed Bd.named
  have hnm := (name_of_methodNamed Bd.named Bd.method).1
  have X0 : Stand pg la ev ({ frames := 1, cells := 0, slots := 0, locals := 12 } : Room) sb mi #[(.ref a), (.ref k), (.ref x), (.int u), (.int v), (.int w)] below me cd s₁ [] 0 0 := Stand.of_body Bd
  have eE : s₁.heap = hE := by rw [← hh, Bd.state]; rfl
  have N0 := Fr.nil n0
  have pre0 : ∀ tt, Steps pg.tables ev below (s₁.setTop (mkF mi 0 #[.val (.ref a), .val (.ref k), .val (.ref x), .val (.int u), .val (.int v), .val (.int w)] [])) tt → Steps pg.tables ev below (s₁.setTop (entryFrame mi #[(.ref a), (.ref k), (.ref x), (.int u), (.int v), (.int w)] 6)) tt := fun tt kk => castTop (ef_tin mi a k x u v w) kk
  obtain ⟨T101, X101, e101, st101⟩ := initO X0 hx hZ hown (wd39 hw) (wd23 hw) (wd24 hw) eE (g := (mkF mi 1 #[.val (.ref a), .val (.ref k), .val (.ref x), .val (.int u), .val (.int v), .val (.int w)] [(.ref a)])) rfl (by rw [hml]; rfl) rfl (hb hby d_prog_74_method_1_code_1) (by decide) (W := 0) (by show 2 * 0 + _ ≤ _; exact Nat.le_of_eq rfl) (by decide)
  obtain ⟨T102, h102, X102, e102, W102, st102⟩ := putF X101 hx hZ hown (host := "") (Or.inl (wd40 hw)) Via.refl e101 P1_ P0_ (Or.inr ⟨(wd41 hw), rfl, hnm⟩) (wd34 hw) (ty := (.object "com/example/endless_runs/endlessruns/hoa/HoaLexer$Kind")) (by decide) rfl rfl (g := (mkF mi 6 #[.val (.ref a), .val (.ref k), .val (.ref x), .val (.int u), .val (.int v), .val (.int w)] [(.ref k), (.ref a)])) rfl rfl (hb hby d_prog_74_method_1_code_6)
  have N102 := Fr.snoc X102 N0 g_a
  have f103 : Fld Z h102 a "com/example/endless_runs/endlessruns/hoa/HoaLexer$Token" "kind" "Lcom/example/endless_runs/endlessruns/hoa/HoaLexer$Kind;" (.ref k) := P1_.same W102
  have f104 : Exa Z h102 a "com/example/endless_runs/endlessruns/hoa/HoaLexer$Token" := (P0_.keep (Keep.of_wr W102))
  have f105 : Fld Z h102 a "com/example/endless_runs/endlessruns/hoa/HoaLexer$Token" "text" "Ljava/lang/String;" .null := (P2_.other W102 (Or.inr (slot_ne (Or.inr (wd43 hw)) (Or.inr (wd41 hw)) (by decide) (t := (.object "java/lang/String")) (t' := (.object "com/example/endless_runs/endlessruns/hoa/HoaLexer$Kind")) (by decide) (by decide))))
  obtain ⟨T106, h106, X106, e106, W106, st106⟩ := putF X102 hx hZ hown (host := "") (Or.inl (wd42 hw)) Via.refl e102 f105 f104 (Or.inr ⟨(wd43 hw), rfl, hnm⟩) (wd34 hw) (ty := (.object "java/lang/String")) (by decide) rfl rfl (g := (mkF mi 11 #[.val (.ref a), .val (.ref k), .val (.ref x), .val (.int u), .val (.int v), .val (.int w)] [(.ref x), (.ref a)])) rfl rfl (hb hby d_prog_74_method_1_code_11)
  have N106 := Fr.snoc X106 N102 g_a
  have f107 : Fld Z h106 a "com/example/endless_runs/endlessruns/hoa/HoaLexer$Token" "text" "Ljava/lang/String;" (.ref x) := f105.same W106
  have f108 : Exa Z h106 a "com/example/endless_runs/endlessruns/hoa/HoaLexer$Token" := (f104.keep (Keep.of_wr W106))
  have f109 : Fld Z h106 a "com/example/endless_runs/endlessruns/hoa/HoaLexer$Token" "value" "I" (.int (0 : Int32)) := ((P3_.other W102 (Or.inr (slot_ne (Or.inr (wd45 hw)) (Or.inr (wd41 hw)) (by decide) (t := .int) (t' := (.object "com/example/endless_runs/endlessruns/hoa/HoaLexer$Kind")) (by decide) (by decide)))).other W106 (Or.inr (slot_ne (Or.inr (wd45 hw)) (Or.inr (wd43 hw)) (by decide) (t := .int) (t' := (.object "java/lang/String")) (by decide) (by decide))))
  obtain ⟨T110, h110, X110, e110, W110, st110⟩ := putF X106 hx hZ hown (host := "") (Or.inl (wd44 hw)) Via.refl e106 f109 f108 (Or.inr ⟨(wd45 hw), rfl, hnm⟩) (wd34 hw) (ty := .int) (by decide) rfl rfl (g := (mkF mi 16 #[.val (.ref a), .val (.ref k), .val (.ref x), .val (.int u), .val (.int v), .val (.int w)] [(.int u), (.ref a)])) rfl rfl (hb hby d_prog_74_method_1_code_16)
  have N110 := Fr.snoc X110 N106 g_a
  have f111 : Fld Z h110 a "com/example/endless_runs/endlessruns/hoa/HoaLexer$Token" "value" "I" (.int u) := f109.same W110
  have f112 : Exa Z h110 a "com/example/endless_runs/endlessruns/hoa/HoaLexer$Token" := (f108.keep (Keep.of_wr W110))
  have f113 : Fld Z h110 a "com/example/endless_runs/endlessruns/hoa/HoaLexer$Token" "automaton" "I" (.int (0 : Int32)) := (((P4_.other W102 (Or.inr (slot_ne (Or.inr (wd47 hw)) (Or.inr (wd41 hw)) (by decide) (t := .int) (t' := (.object "com/example/endless_runs/endlessruns/hoa/HoaLexer$Kind")) (by decide) (by decide)))).other W106 (Or.inr (slot_ne (Or.inr (wd47 hw)) (Or.inr (wd43 hw)) (by decide) (t := .int) (t' := (.object "java/lang/String")) (by decide) (by decide)))).other W110 (Or.inr (slot_ne (Or.inr (wd47 hw)) (Or.inr (wd45 hw)) (by decide) (t := .int) (t' := .int) (by decide) (by decide))))
  obtain ⟨T114, h114, X114, e114, W114, st114⟩ := putF X110 hx hZ hown (host := "") (Or.inl (wd46 hw)) Via.refl e110 f113 f112 (Or.inr ⟨(wd47 hw), rfl, hnm⟩) (wd34 hw) (ty := .int) (by decide) rfl rfl (g := (mkF mi 22 #[.val (.ref a), .val (.ref k), .val (.ref x), .val (.int u), .val (.int v), .val (.int w)] [(.int v), (.ref a)])) rfl rfl (hb hby d_prog_74_method_1_code_22)
  have N114 := Fr.snoc X114 N110 g_a
  have f115 : Fld Z h114 a "com/example/endless_runs/endlessruns/hoa/HoaLexer$Token" "automaton" "I" (.int v) := f113.same W114
  have f116 : Exa Z h114 a "com/example/endless_runs/endlessruns/hoa/HoaLexer$Token" := (f112.keep (Keep.of_wr W114))
  have f117 : Fld Z h114 a "com/example/endless_runs/endlessruns/hoa/HoaLexer$Token" "line" "I" (.int (0 : Int32)) := ((((P5_.other W102 (Or.inr (slot_ne (Or.inr (wd49 hw)) (Or.inr (wd41 hw)) (by decide) (t := .int) (t' := (.object "com/example/endless_runs/endlessruns/hoa/HoaLexer$Kind")) (by decide) (by decide)))).other W106 (Or.inr (slot_ne (Or.inr (wd49 hw)) (Or.inr (wd43 hw)) (by decide) (t := .int) (t' := (.object "java/lang/String")) (by decide) (by decide)))).other W110 (Or.inr (slot_ne (Or.inr (wd49 hw)) (Or.inr (wd45 hw)) (by decide) (t := .int) (t' := .int) (by decide) (by decide)))).other W114 (Or.inr (slot_ne (Or.inr (wd49 hw)) (Or.inr (wd47 hw)) (by decide) (t := .int) (t' := .int) (by decide) (by decide))))
  obtain ⟨T118, h118, X118, e118, W118, st118⟩ := putF X114 hx hZ hown (host := "") (Or.inl (wd48 hw)) Via.refl e114 f117 f116 (Or.inr ⟨(wd49 hw), rfl, hnm⟩) (wd34 hw) (ty := .int) (by decide) rfl rfl (g := (mkF mi 28 #[.val (.ref a), .val (.ref k), .val (.ref x), .val (.int u), .val (.int v), .val (.int w)] [(.int w), (.ref a)])) rfl rfl (hb hby d_prog_74_method_1_code_28)
  have N118 := Fr.snoc X118 N114 g_a
  have f119 : Fld Z h118 a "com/example/endless_runs/endlessruns/hoa/HoaLexer$Token" "line" "I" (.int w) := f117.same W118
  have f120 : Exa Z h118 a "com/example/endless_runs/endlessruns/hoa/HoaLexer$Token" := (f116.keep (Keep.of_wr W118))
  have f121 : Fld Z h118 a "com/example/endless_runs/endlessruns/hoa/HoaLexer$Token" "kind" "Lcom/example/endless_runs/endlessruns/hoa/HoaLexer$Kind;" (.ref k) := ((((f103.other W106 (Or.inr (slot_ne (Or.inr (wd41 hw)) (Or.inr (wd43 hw)) (by decide) (t := (.object "com/example/endless_runs/endlessruns/hoa/HoaLexer$Kind")) (t' := (.object "java/lang/String")) (by decide) (by decide)))).other W110 (Or.inr (slot_ne (Or.inr (wd41 hw)) (Or.inr (wd45 hw)) (by decide) (t := (.object "com/example/endless_runs/endlessruns/hoa/HoaLexer$Kind")) (t' := .int) (by decide) (by decide)))).other W114 (Or.inr (slot_ne (Or.inr (wd41 hw)) (Or.inr (wd47 hw)) (by decide) (t := (.object "com/example/endless_runs/endlessruns/hoa/HoaLexer$Kind")) (t' := .int) (by decide) (by decide)))).other W118 (Or.inr (slot_ne (Or.inr (wd41 hw)) (Or.inr (wd49 hw)) (by decide) (t := (.object "com/example/endless_runs/endlessruns/hoa/HoaLexer$Kind")) (t' := .int) (by decide) (by decide))))
  have f122 : Fld Z h118 a "com/example/endless_runs/endlessruns/hoa/HoaLexer$Token" "text" "Ljava/lang/String;" (.ref x) := (((f107.other W110 (Or.inr (slot_ne (Or.inr (wd43 hw)) (Or.inr (wd45 hw)) (by decide) (t := (.object "java/lang/String")) (t' := .int) (by decide) (by decide)))).other W114 (Or.inr (slot_ne (Or.inr (wd43 hw)) (Or.inr (wd47 hw)) (by decide) (t := (.object "java/lang/String")) (t' := .int) (by decide) (by decide)))).other W118 (Or.inr (slot_ne (Or.inr (wd43 hw)) (Or.inr (wd49 hw)) (by decide) (t := (.object "java/lang/String")) (t' := .int) (by decide) (by decide))))
  obtain ⟨fs, hr, hrun, hended, hW, hsame⟩ := X118.leave (v := none) (fun _ => rfl)
  refine ⟨_, _, pre0 _ ?_, hrun, hended, _, _, rfl, ?_, ⟨_, rfl⟩, hW, hsame.mono (by decide) (by decide)⟩
  · show Steps pg.tables ev below (s₁.setTop (mkF mi 0 #[.val (.ref a), .val (.ref k), .val (.ref x), .val (.int u), .val (.int v), .val (.int w)] [])) _
    refine XS.aloadN X0.here hx rfl (hb hby d_prog_74_method_1_code_0) rfl rfl ?_
    show Steps pg.tables ev below (s₁.setTop (mkF mi 1 #[.val (.ref a), .val (.ref k), .val (.ref x), .val (.int u), .val (.int v), .val (.int w)] [(.ref a)])) _
    refine st101 _ ?_
    show Steps pg.tables ev below (T101.setTop (mkF mi 4 #[.val (.ref a), .val (.ref k), .val (.ref x), .val (.int u), .val (.int v), .val (.int w)] [])) _
    refine XS.aloadN X101.here hx rfl (hb hby d_prog_74_method_1_code_4) rfl rfl ?_
    show Steps pg.tables ev below (T101.setTop (mkF mi 5 #[.val (.ref a), .val (.ref k), .val (.ref x), .val (.int u), .val (.int v), .val (.int w)] [(.ref a)])) _
    refine XS.aloadN X101.here hx rfl (hb hby d_prog_74_method_1_code_5) rfl rfl ?_
    show Steps pg.tables ev below (T101.setTop (mkF mi 6 #[.val (.ref a), .val (.ref k), .val (.ref x), .val (.int u), .val (.int v), .val (.int w)] [(.ref k), (.ref a)])) _
    refine st102 _ ?_
    show Steps pg.tables ev below (T102.setTop (mkF mi 9 #[.val (.ref a), .val (.ref k), .val (.ref x), .val (.int u), .val (.int v), .val (.int w)] [])) _
    refine XS.aloadN X102.here hx rfl (hb hby d_prog_74_method_1_code_9) rfl rfl ?_
    show Steps pg.tables ev below (T102.setTop (mkF mi 10 #[.val (.ref a), .val (.ref k), .val (.ref x), .val (.int u), .val (.int v), .val (.int w)] [(.ref a)])) _
    refine XS.aloadN X102.here hx rfl (hb hby d_prog_74_method_1_code_10) rfl rfl ?_
    show Steps pg.tables ev below (T102.setTop (mkF mi 11 #[.val (.ref a), .val (.ref k), .val (.ref x), .val (.int u), .val (.int v), .val (.int w)] [(.ref x), (.ref a)])) _
    refine st106 _ ?_
    show Steps pg.tables ev below (T106.setTop (mkF mi 14 #[.val (.ref a), .val (.ref k), .val (.ref x), .val (.int u), .val (.int v), .val (.int w)] [])) _
    refine XS.aloadN X106.here hx rfl (hb hby d_prog_74_method_1_code_14) rfl rfl ?_
    show Steps pg.tables ev below (T106.setTop (mkF mi 15 #[.val (.ref a), .val (.ref k), .val (.ref x), .val (.int u), .val (.int v), .val (.int w)] [(.ref a)])) _
    refine XS.iloadN X106.here hx rfl (hb hby d_prog_74_method_1_code_15) rfl ?_
    show Steps pg.tables ev below (T106.setTop (mkF mi 16 #[.val (.ref a), .val (.ref k), .val (.ref x), .val (.int u), .val (.int v), .val (.int w)] [(.int u), (.ref a)])) _
    refine st110 _ ?_
    show Steps pg.tables ev below (T110.setTop (mkF mi 19 #[.val (.ref a), .val (.ref k), .val (.ref x), .val (.int u), .val (.int v), .val (.int w)] [])) _
    refine XS.aloadN X110.here hx rfl (hb hby d_prog_74_method_1_code_19) rfl rfl ?_
    show Steps pg.tables ev below (T110.setTop (mkF mi 20 #[.val (.ref a), .val (.ref k), .val (.ref x), .val (.int u), .val (.int v), .val (.int w)] [(.ref a)])) _
    refine XS.iload X110.here hx rfl (hb hby d_prog_74_method_1_code_20) rfl ?_
    show Steps pg.tables ev below (T110.setTop (mkF mi 22 #[.val (.ref a), .val (.ref k), .val (.ref x), .val (.int u), .val (.int v), .val (.int w)] [(.int v), (.ref a)])) _
    refine st114 _ ?_
    show Steps pg.tables ev below (T114.setTop (mkF mi 25 #[.val (.ref a), .val (.ref k), .val (.ref x), .val (.int u), .val (.int v), .val (.int w)] [])) _
    refine XS.aloadN X114.here hx rfl (hb hby d_prog_74_method_1_code_25) rfl rfl ?_
    show Steps pg.tables ev below (T114.setTop (mkF mi 26 #[.val (.ref a), .val (.ref k), .val (.ref x), .val (.int u), .val (.int v), .val (.int w)] [(.ref a)])) _
    refine XS.iload X114.here hx rfl (hb hby d_prog_74_method_1_code_26) rfl ?_
    show Steps pg.tables ev below (T114.setTop (mkF mi 28 #[.val (.ref a), .val (.ref k), .val (.ref x), .val (.int u), .val (.int v), .val (.int w)] [(.int w), (.ref a)])) _
    refine st118 _ ?_
    show Steps pg.tables ev below (T118.setTop (mkF mi 31 #[.val (.ref a), .val (.ref k), .val (.ref x), .val (.int u), .val (.int v), .val (.int w)] [])) _
    exact X118.returnOut hx Bd.returns (hb hby d_prog_74_method_1_code_31) hr
  · show Q_tin Z a k x u v w hE n0 _ T118.heap _
    rw [e118]
    exact ⟨rfl, N118, ((((((Keep.refl hE [a]).trans (Keep.of_wr W102) (allS (Or.inl (List.mem_of_getElem? (i := 0) rfl)) all0)).trans (Keep.of_wr W106) (allS (Or.inl (List.mem_of_getElem? (i := 0) rfl)) all0)).trans (Keep.of_wr W110) (allS (Or.inl (List.mem_of_getElem? (i := 0) rfl)) all0)).trans (Keep.of_wr W114) (allS (Or.inl (List.mem_of_getElem? (i := 0) rfl)) all0)).trans (Keep.of_wr W118) (allS (Or.inl (List.mem_of_getElem? (i := 0) rfl)) all0)), f120, f121, f122⟩
theorem d_prog_74_method_5_code_0 : decode prog_74_method_5_code 0 = .ok (.aload_n 0, 1) := by decide +kernel
theorem d_prog_74_method_5_code_1 : decode prog_74_method_5_code 1 = .ok (.getfield 7, 3) := by decide +kernel
theorem d_prog_74_method_5_code_4 : decode prog_74_method_5_code 4 = .ok (.aload_n 1, 1) := by decide +kernel
theorem d_prog_74_method_5_code_5 : decode prog_74_method_5_code 5 = .ok (.if_acmp .ne 18, 3) := by decide +kernel
theorem d_prog_74_method_5_code_8 : decode prog_74_method_5_code 8 = .ok (.aload_n 0, 1) := by decide +kernel
theorem d_prog_74_method_5_code_9 : decode prog_74_method_5_code 9 = .ok (.getfield 13, 3) := by decide +kernel
theorem d_prog_74_method_5_code_12 : decode prog_74_method_5_code 12 = .ok (.aload_n 2, 1) := by decide +kernel
theorem d_prog_74_method_5_code_13 : decode prog_74_method_5_code 13 = .ok (.invokevirtual 27, 3) := by decide +kernel
theorem d_prog_74_method_5_code_16 : decode prog_74_method_5_code 16 = .ok (.ifCond .eq 7, 3) := by decide +kernel
theorem d_prog_74_method_5_code_19 : decode prog_74_method_5_code 19 = .ok (.iconst 1, 1) := by decide +kernel
theorem d_prog_74_method_5_code_20 : decode prog_74_method_5_code 20 = .ok (.goto 4, 3) := by decide +kernel
theorem d_prog_74_method_5_code_23 : decode prog_74_method_5_code 23 = .ok (.iconst 0, 1) := by decide +kernel
theorem d_prog_74_method_5_code_24 : decode prog_74_method_5_code 24 = .ok (.ireturn, 1) := by decide +kernel
theorem pd_5 : parseMethodDescriptor "(Ljava/lang/Object;)Z" = some ⟨[(.object "java/lang/Object")], some .boolean⟩ := by decide +kernel
theorem ef_isc (mi : MethodId) (a : Addr) (k2 : Addr) (y : Addr) : entryFrame mi #[(.ref a), (.ref k2), (.ref y)] 3 = mkF mi 0 #[.val (.ref a), .val (.ref k2), .val (.ref y)] [] := by first | (simp [entryFrame, mkF, argsToLocals, Value.category]; done) | rfl
def Q_isc (Z : State) (a : Addr) (k2 : Addr) (y : Addr) (k1 : Addr) (x : Addr) (t1 : Addr) (t2 : Addr) (cs : List Int32) (ds : List Int32) (zc : Int32) (hE : Heap) (n0 : Nat) (vv : Option Value) (hh : Heap) (LL : List Loc) : Prop := (vv = some (.int (if k1 = k2 ∧ cs = ds then (1 : Int32) else 0))) ∧ (Fr n0 LL) ∧ (hh = hE)
set_option maxRecDepth 65536 in
set_option maxHeartbeats 40000000 in
theorem rm_isc (la : Launch) (Z : State) (a0 : Array Value) (hw : ∀ d ∈ tables_1, d.before a0 Z = true) (ws : List Jvm.Cond) (a : Addr) (k2 : Addr) (y : Addr) (k1 : Addr) (x : Addr) (t1 : Addr) (t2 : Addr) (cs : List Int32) (ds : List Int32) (zc : Int32) (hE : Heap) (n0 : Nat) (O : Old Z n0 hE) (P0_ : Fld Z hE a "com/example/endless_runs/endlessruns/hoa/HoaLexer$Token" "kind" "Lcom/example/endless_runs/endlessruns/hoa/HoaLexer$Kind;" (.ref k1)) (P1_ : Fld Z hE a "com/example/endless_runs/endlessruns/hoa/HoaLexer$Token" "text" "Ljava/lang/String;" (.ref x)) (P2_ : LStr Z hE x t1 cs) (P3_ : LStr Z hE y t2 ds) (D0_ : Sta Z Z.heap "java/lang/String" "COMPACT_STRINGS" "Z" (.int zc)) (hzc : ¬ (zc = (0 : Int32))) :
    MetFree la mn9 (head1 (Jvm.Cond.code mn9 prog_74_method_5_code 3 (some .boolean) :: ws) ({ frames := 2, cells := 0, slots := 0, locals := 28 } : Room)) (fun aa UU => aa = #[(.ref a), (.ref k2), (.ref y)] ∧ Z.Warmed39 UU.vm ∧ UU.heap = hE) (fun _ _ _ _ _ => True) (fun _ UU oo UV => ∃ vv LL, oo = .returned vv ∧ Q_isc Z a k2 y k1 x t1 t2 cs ds zc hE n0 vv UV.heap LL ∧ FrameEnd UU oo UV LL ({ frames := 2, cells := 0, slots := 0, locals := 28 } : Room).cells ({ frames := 2, cells := 0, slots := 0, locals := 28 } : Room).slots) := by
  refine MetFree.of_bodySF (plainFor_of_name pn_com_example_endless_runs_endlessruns_hoa_HoaLexer_Token) hisR ?_
  intro pg ev sb mi gs below me cd s₁ Bd hml0 hPt hKt
  obtain ⟨rfl, hZ, hh⟩ := hPt
  have hx := Bd.exec
  have hby := Bd.bytes
  have hml : cd.maxLocals = 3 := hml0
  have hown : sb.vm.findClass "com/example/endless_runs/endlessruns/hoa/HoaLexer$Token" = some mi.cls := findClass_of_methodNamed Bd.named
  have hnm := (name_of_methodNamed Bd.named Bd.method).1
  have X0 : Stand pg la ev ({ frames := 2, cells := 0, slots := 0, locals := 28 } : Room) sb mi #[(.ref a), (.ref k2), (.ref y)] below me cd s₁ [] 0 0 := Stand.of_body Bd
  have eE : s₁.heap = hE := by rw [← hh, Bd.state]; rfl
  have N0 := Fr.nil n0
  have pre0 : ∀ tt, Steps pg.tables ev below (s₁.setTop (mkF mi 0 #[.val (.ref a), .val (.ref k2), .val (.ref y)] [])) tt → Steps pg.tables ev below (s₁.setTop (entryFrame mi #[(.ref a), (.ref k2), (.ref y)] 3)) tt := fun tt kk => castTop (ef_isc mi a k2 y) kk
  obtain ⟨T101, X101, e101, st101⟩ := getF X0 hx hZ hown (host := "") (Or.inl (wd40 hw)) Via.refl eE P0_ (g := (mkF mi 1 #[.val (.ref a), .val (.ref k2), .val (.ref y)] [(.ref a)])) rfl rfl (hb hby d_prog_74_method_5_code_1)
  have pre103 : ∀ tt, Steps pg.tables ev below (T101.setTop (mkF mi 5 #[.val (.ref a), .val (.ref k2), .val (.ref y)] [(.ref k2), (.ref k1)])) tt → Steps pg.tables ev below (s₁.setTop (entryFrame mi #[(.ref a), (.ref k2), (.ref y)] 3)) tt := fun tt kk => pre0 _ (by
    show Steps pg.tables ev below (s₁.setTop (mkF mi 0 #[.val (.ref a), .val (.ref k2), .val (.ref y)] [])) _
    refine XS.aloadN X0.here hx rfl (hb hby d_prog_74_method_5_code_0) rfl rfl ?_
    show Steps pg.tables ev below (s₁.setTop (mkF mi 1 #[.val (.ref a), .val (.ref k2), .val (.ref y)] [(.ref a)])) _
    refine st101 _ ?_
    show Steps pg.tables ev below (T101.setTop (mkF mi 4 #[.val (.ref a), .val (.ref k2), .val (.ref y)] [(.ref k1)])) _
    refine XS.aloadN X101.here hx rfl (hb hby d_prog_74_method_5_code_4) rfl rfl ?_
    exact kk)
  by_cases hc102 : k1 = k2
  · obtain ⟨T104, X104, e104, st104⟩ := getF X101 hx hZ hown (host := "") (Or.inl (wd42 hw)) Via.refl e101 P1_ (g := (mkF mi 9 #[.val (.ref a), .val (.ref k2), .val (.ref y)] [(.ref a)])) rfl rfl (hb hby d_prog_74_method_5_code_9)
    have heq : ∀ d ∈ StrChars.Road.wordsEq, d.before a0 Z = true := fun d hd => hw d ((by decide +kernel : ∀ d ∈ StrChars.Road.wordsEq, d ∈ tables_1) d hd)
    obtain ⟨sE105, sV105, sC105, ⟨kb105, sK105⟩, sb105, sl105⟩ := id P2_
    obtain ⟨sE106, sV106, sC106, ⟨kb106, sK106⟩, sb106, sl106⟩ := id P3_
    obtain ⟨cq107, kq107, q107a, q107b, q107c⟩ := isOf hZ e104 (P2_).1
    obtain ⟨v107, _, ⟨T107, L107, k107, n107⟩, -, X107, ⟨Lc107, ⟨hv107, hL107, hh107⟩, l107, y107, z107⟩, st107⟩ := X104.virtualBack hx (y := mn8) (z := mn8) hown (mvT hZ (wd55 hw)) (mvT hZ (wd56 hw)) (notFace_of_selects (args := #[]) (mvT hZ (wd58 hw))) (mvT hZ (wd58 hw)) (mvT hZ (wd57 hw)) (by decide) (StrChars.Road.eqW (W := 0) hZ heq (kI := 4) (wd12 hw) sE105 sV105 sC105 sK105 (own_cod sb105) (own_up sb105) sl105 sE106 sV106 sC106 sK106 (own_cod sb106) (own_up sb106) sl106 (D0_.ext O.2) hzc (by decide) (by decide)) q107a q107c (g := (mkF mi 13 #[.val (.ref a), .val (.ref k2), .val (.ref y)] [(.ref y), (.ref x)])) rfl (by rw [hml]; rfl) (Steps.refl _) (argsL := [(.ref y)]) (rest := []) (lenOf pd_5 rfl) rfl (by show 2 * 0 + _ ≤ _; exact Nat.le_of_eq rfl) (hb hby d_prog_74_method_5_code_13) (fun _ _ => ⟨rfl, e104, (by decide : 0 + 0 ≤ _), (by decide : 0 + 0 ≤ _)⟩)
    dsimp only [Pt.U, Pt.locs, Pt.cells, Pt.slots] at X107 l107 y107 z107 st107 hv107 hL107 hh107
    have hw107 : v107 = some (.int (if cs = ds then (1 : Int32) else 0)) := by rcases hv107 with ⟨q1, q2⟩ | ⟨q1, q2⟩; (rw [q1, if_pos q2]); (rw [q1, if_neg q2])
    clear hv107
    subst hw107 hL107
    subst l107 y107 z107
    have N107 := Fr.app N0 (Fr.nil n0)
    have pre108 : ∀ tt, Steps pg.tables ev below (T107.setTop (mkF mi 16 #[.val (.ref a), .val (.ref k2), .val (.ref y)] [(.int (if cs = ds then (1 : Int32) else 0))])) tt → Steps pg.tables ev below (s₁.setTop (entryFrame mi #[(.ref a), (.ref k2), (.ref y)] 3)) tt := fun tt kk => pre103 _ (by
      show Steps pg.tables ev below (T101.setTop (mkF mi 5 #[.val (.ref a), .val (.ref k2), .val (.ref y)] [(.ref k2), (.ref k1)])) _
      refine Jvm.RoadKit.acmp (g := (mkF mi 5 #[.val (.ref a), .val (.ref k2), .val (.ref y)] [(.ref k2), (.ref k1)])) X101 hx rfl rfl rfl (pc0 := 5) (pc' := 8) (same := true) rfl (hb hby d_prog_74_method_5_code_5) rfl (decide_eq_true (congrArg Value.ref hc102)) (by decide) (by decide) ?_
      show Steps pg.tables ev below (T101.setTop (mkF mi 8 #[.val (.ref a), .val (.ref k2), .val (.ref y)] [])) _
      refine XS.aloadN X101.here hx rfl (hb hby d_prog_74_method_5_code_8) rfl rfl ?_
      show Steps pg.tables ev below (T101.setTop (mkF mi 9 #[.val (.ref a), .val (.ref k2), .val (.ref y)] [(.ref a)])) _
      refine st104 _ ?_
      show Steps pg.tables ev below (T104.setTop (mkF mi 12 #[.val (.ref a), .val (.ref k2), .val (.ref y)] [(.ref x)])) _
      refine XS.aloadN X104.here hx rfl (hb hby d_prog_74_method_5_code_12) rfl rfl ?_
      show Steps pg.tables ev below (T104.setTop (mkF mi 13 #[.val (.ref a), .val (.ref k2), .val (.ref y)] [(.ref y), (.ref x)])) _
      refine st107.trans ?_
      exact kk)
    by_cases hc109 : cs = ds
    · have pre110 : ∀ tt, Steps pg.tables ev below (T107.setTop (mkF mi 16 #[.val (.ref a), .val (.ref k2), .val (.ref y)] [(.int (1 : Int32))])) tt → Steps pg.tables ev below (s₁.setTop (entryFrame mi #[(.ref a), (.ref k2), (.ref y)] 3)) tt := fun tt kk => pre108 tt (by rw [if_pos hc109]; exact kk)
      obtain ⟨fs, hr, hrun, hended, hW, hsame⟩ := X107.leave (v := some (.int (1 : Int32))) (fun hq => by rw [Bd.returns] at hq; cases hq)
      refine ⟨_, _, pre110 _ ?_, hrun, hended, _, _, rfl, ?_, ⟨_, rfl⟩, hW, hsame.mono (by decide) (by decide)⟩
      · show Steps pg.tables ev below (T107.setTop (mkF mi 16 #[.val (.ref a), .val (.ref k2), .val (.ref y)] [(.int (1 : Int32))])) _
        refine XS.ifNo X107.here hx rfl (hb hby d_prog_74_method_5_code_16) rfl ((if0 _ _).trans (feq (by decide : ¬ ((1 : Int32) = (0 : Int32)))).1) ?_
        show Steps pg.tables ev below (T107.setTop (mkF mi 19 #[.val (.ref a), .val (.ref k2), .val (.ref y)] [])) _
        refine XS.iconst X107.here hx rfl (hb hby d_prog_74_method_5_code_19) ?_
        show Steps pg.tables ev below (T107.setTop (mkF mi 20 #[.val (.ref a), .val (.ref k2), .val (.ref y)] [(.int (1 : Int32))])) _
        refine XS.goto X107.here hx rfl (pc0 := 20) (pc' := 24) rfl (hb hby d_prog_74_method_5_code_20) (by decide) (by decide) ?_
        show Steps pg.tables ev below (T107.setTop (mkF mi 24 #[.val (.ref a), .val (.ref k2), .val (.ref y)] [(.int (1 : Int32))])) _
        exact retN X107 hx (t := .boolean) Bd.returns (by simp) (hb hby d_prog_74_method_5_code_24) hr
      · show Q_isc Z a k2 y k1 x t1 t2 cs ds zc hE n0 _ T107.heap _
        rw [hh107]
        exact ⟨(by show some (Value.int (1 : Int32)) = some (Value.int (if k1 = k2 ∧ cs = ds then (1 : Int32) else 0)); rw [if_pos ⟨hc102, hc109⟩]), N107, rfl⟩
    · have pre111 : ∀ tt, Steps pg.tables ev below (T107.setTop (mkF mi 16 #[.val (.ref a), .val (.ref k2), .val (.ref y)] [(.int (0 : Int32))])) tt → Steps pg.tables ev below (s₁.setTop (entryFrame mi #[(.ref a), (.ref k2), (.ref y)] 3)) tt := fun tt kk => pre108 tt (by rw [if_neg hc109]; exact kk)
      obtain ⟨fs, hr, hrun, hended, hW, hsame⟩ := X107.leave (v := some (.int (0 : Int32))) (fun hq => by rw [Bd.returns] at hq; cases hq)
      refine ⟨_, _, pre111 _ ?_, hrun, hended, _, _, rfl, ?_, ⟨_, rfl⟩, hW, hsame.mono (by decide) (by decide)⟩
      · show Steps pg.tables ev below (T107.setTop (mkF mi 16 #[.val (.ref a), .val (.ref k2), .val (.ref y)] [(.int (0 : Int32))])) _
        refine XS.ifYes X107.here hx rfl (pc0 := 16) (pc' := 23) rfl (hb hby d_prog_74_method_5_code_16) rfl ((if0 _ _).trans (teq (rfl : (0 : Int32) = (0 : Int32))).1) (by decide) (by decide) ?_
        show Steps pg.tables ev below (T107.setTop (mkF mi 23 #[.val (.ref a), .val (.ref k2), .val (.ref y)] [])) _
        refine XS.iconst X107.here hx rfl (hb hby d_prog_74_method_5_code_23) ?_
        show Steps pg.tables ev below (T107.setTop (mkF mi 24 #[.val (.ref a), .val (.ref k2), .val (.ref y)] [(.int (0 : Int32))])) _
        exact retN X107 hx (t := .boolean) Bd.returns (by simp) (hb hby d_prog_74_method_5_code_24) hr
      · show Q_isc Z a k2 y k1 x t1 t2 cs ds zc hE n0 _ T107.heap _
        rw [hh107]
        exact ⟨(by show some (Value.int (0 : Int32)) = some (Value.int (if k1 = k2 ∧ cs = ds then (1 : Int32) else 0)); rw [if_neg (fun q => hc109 q.2)]), N107, rfl⟩
  · obtain ⟨fs, hr, hrun, hended, hW, hsame⟩ := X101.leave (v := some (.int (0 : Int32))) (fun hq => by rw [Bd.returns] at hq; cases hq)
    refine ⟨_, _, pre103 _ ?_, hrun, hended, _, _, rfl, ?_, ⟨_, rfl⟩, hW, hsame.mono (by decide) (by decide)⟩
    · show Steps pg.tables ev below (T101.setTop (mkF mi 5 #[.val (.ref a), .val (.ref k2), .val (.ref y)] [(.ref k2), (.ref k1)])) _
      refine Jvm.RoadKit.acmp (g := (mkF mi 5 #[.val (.ref a), .val (.ref k2), .val (.ref y)] [(.ref k2), (.ref k1)])) X101 hx rfl rfl rfl (pc0 := 5) (pc' := 23) (same := false) rfl (hb hby d_prog_74_method_5_code_5) rfl (decide_eq_false (fun q => hc102 (Value.ref.inj q))) (by decide) (by decide) ?_
      show Steps pg.tables ev below (T101.setTop (mkF mi 23 #[.val (.ref a), .val (.ref k2), .val (.ref y)] [])) _
      refine XS.iconst X101.here hx rfl (hb hby d_prog_74_method_5_code_23) ?_
      show Steps pg.tables ev below (T101.setTop (mkF mi 24 #[.val (.ref a), .val (.ref k2), .val (.ref y)] [(.int (0 : Int32))])) _
      exact retN X101 hx (t := .boolean) Bd.returns (by simp) (hb hby d_prog_74_method_5_code_24) hr
    · show Q_isc Z a k2 y k1 x t1 t2 cs ds zc hE n0 _ T101.heap _
      rw [e101]
      exact ⟨(by show some (Value.int (0 : Int32)) = some (Value.int (if k1 = k2 ∧ cs = ds then (1 : Int32) else 0)); rw [if_neg (fun q => hc102 q.1)]), N0, rfl⟩
theorem own_m18 (x : Int32) : ¬ ((x &&& (2147483647 : Int32)) % (18 : Int32) < (0 : Int32)) ∧ (x &&& (2147483647 : Int32)) % (18 : Int32) < (18 : Int32) := by
  have e := Jvm.Kit.i32_mask x 2147483647 (k := 31) (by decide) (by decide)
  have h1 := Int.emod_nonneg x.toInt (show (2 : Int) ^ 31 ≠ 0 by decide)
  have e2 : ((x &&& (2147483647 : Int32)) % (18 : Int32)).toInt = (x &&& (2147483647 : Int32)).toInt.tmod 18 := Int32.toInt_mod _ _
  rw [Int32.lt_iff_toInt_lt, Int32.lt_iff_toInt_lt, e2, e, Int.tmod_eq_emod_of_nonneg h1]
  constructor
  · show ¬ _ < (0 : Int); omega
  · show _ < (18 : Int); omega
theorem own_m3 (x : Int32) : ¬ ((x &&& (255 : Int32)) % (3 : Int32) < (0 : Int32)) ∧ (x &&& (255 : Int32)) % (3 : Int32) < (3 : Int32) := by
  have e := Jvm.Kit.i32_mask x 255 (k := 8) (by decide) (by decide)
  have h1 := Int.emod_nonneg x.toInt (show (2 : Int) ^ 8 ≠ 0 by decide)
  have e2 : ((x &&& (255 : Int32)) % (3 : Int32)).toInt = (x &&& (255 : Int32)).toInt.tmod 3 := Int32.toInt_mod _ _
  rw [Int32.lt_iff_toInt_lt, Int32.lt_iff_toInt_lt, e2, e, Int.tmod_eq_emod_of_nonneg h1]
  constructor
  · show ¬ _ < (0 : Int); omega
  · show _ < (3 : Int); omega
theorem own_c255 (x : Int32) : ¬ ((x &&& (255 : Int32)).toUInt32.toUInt16.toUInt32.toInt32 < (0 : Int32)) ∧ ¬ ((255 : Int32) < (x &&& (255 : Int32)).toUInt32.toUInt16.toUInt32.toInt32) := by
  rw [i2c_mask]
  have e := Jvm.Kit.i32_mask x 255 (k := 8) (by decide) (by decide)
  have h1 := Int.emod_nonneg x.toInt (show (2 : Int) ^ 8 ≠ 0 by decide)
  have h2 := Int.emod_lt_of_pos x.toInt (show (0 : Int) < 2 ^ 8 by decide)
  rw [Int32.lt_iff_toInt_lt, Int32.lt_iff_toInt_lt, e]
  constructor
  · show ¬ _ < (0 : Int); omega
  · show ¬ (255 : Int) < _; omega
theorem own_ite {P Q : Int32 → Prop} {c : Prop} [Decidable c] {a b : Int32} (ha : P a ∧ Q a) (hb : P b ∧ Q b) : P (if c then a else b) ∧ Q (if c then a else b) := by split <;> assumption
theorem own_3 {n : Int32} (h : ¬ (n < (0 : Int32)) ∧ n < (3 : Int32)) : n = 0 ∨ n = 1 ∨ n = 2 := by
  have e := (back32 h.1).1
  have h2 : n.toNatClampNeg < 3 := by have := h.2; rw [Int32.lt_iff_toInt_lt, nat_of h.1] at this; have : ((n.toNatClampNeg : Nat) : Int) < 3 := this; omega
  have : n.toNatClampNeg = 0 ∨ n.toNatClampNeg = 1 ∨ n.toNatClampNeg = 2 := by omega
  rcases this with q | q | q <;> rw [q] at e
  · exact Or.inl e.symm
  · exact Or.inr (Or.inl e.symm)
  · exact Or.inr (Or.inr e.symm)
theorem own_final {K : Nat → Addr} (hK : ∀ a b, a < 18 → b < 18 → K a = K b → a = b) {i1 i2 lt le t0 t1 e0 e1 : Int32} (b1 : ¬ (i1 < (0 : Int32)) ∧ i1 < (18 : Int32)) (b2 : ¬ (i2 < (0 : Int32)) ∧ i2 < (18 : Int32)) (b3 : ¬ (lt < (0 : Int32)) ∧ lt < (3 : Int32)) (b4 : ¬ (le < (0 : Int32)) ∧ le < (3 : Int32)) :
    (if (K i1.toNatClampNeg) = (K i2.toNatClampNeg) ∧ (strF lt t0 t1) = (strF le e0 e1) then (1 : Int32) else 0) = (if i1 = i2 then (if lt = le then (if lt < (1 : Int32) then (if lt < (2 : Int32) then (1 : Int32) else (if t1 = e1 then (1 : Int32) else (0 : Int32))) else (if t0 = e0 then (if lt < (2 : Int32) then (1 : Int32) else (if t1 = e1 then (1 : Int32) else (0 : Int32))) else (0 : Int32))) else (0 : Int32)) else (0 : Int32)) := by
  have l1 : i1.toNatClampNeg < 18 := by have := b1.2; rw [Int32.lt_iff_toInt_lt, nat_of b1.1] at this; have : ((i1.toNatClampNeg : Nat) : Int) < 18 := this; omega
  have l2 : i2.toNatClampNeg < 18 := by have := b2.2; rw [Int32.lt_iff_toInt_lt, nat_of b2.1] at this; have : ((i2.toNatClampNeg : Nat) : Int) < 18 := this; omega
  have hk : K i1.toNatClampNeg = K i2.toNatClampNeg ↔ i1 = i2 := ⟨fun q => by have := hK _ _ l1 l2 q; rw [← (back32 b1.1).1, ← (back32 b2.1).1, this], fun q => by rw [q]⟩
  have d01 : ¬ (1 : Int32) = 0 := by decide
  have d02 : ¬ (2 : Int32) = 0 := by decide
  have d12 : ¬ (2 : Int32) = 1 := by decide
  have d10 : ¬ (0 : Int32) = 1 := by decide
  have d20 : ¬ (0 : Int32) = 2 := by decide
  have d21 : ¬ (1 : Int32) = 2 := by decide
  have c1 : ¬ (1 : Int32) < 1 := by decide
  have c2 : ¬ (2 : Int32) < 1 := by decide
  have c3 : ¬ (2 : Int32) < 2 := by decide
  have c4 : (0 : Int32) < 1 := by decide
  have c5 : (0 : Int32) < 2 := by decide
  have c6 : (1 : Int32) < 2 := by decide
  by_cases hi : i1 = i2
  · subst hi
    rcases own_3 b3 with rfl | rfl | rfl <;> rcases own_3 b4 with rfl | rfl | rfl <;> simp [strF, d01, d02, d12, d10, d20, d21, c1, c2, c3, c4, c5, c6]
    all_goals first | (by_cases h0 : t0 = e0 <;> by_cases h1 : t1 = e1 <;> simp [h0, h1])
  · have hk' : ¬ K i1.toNatClampNeg = K i2.toNatClampNeg := fun q => hi (hk.mp q)
    simp [hi, hk']
theorem pd_6 : parseMethodDescriptor "(I)Lcom/example/endless_runs/endlessruns/hoa/HoaLexer$Kind;" = some ⟨[.int], some (.object "com/example/endless_runs/endlessruns/hoa/HoaLexer$Kind")⟩ := by decide +kernel
theorem pd_7 : parseMethodDescriptor "(ICC)Ljava/lang/String;" = some ⟨[.int, .char, .char], some (.object "java/lang/String")⟩ := by decide +kernel
theorem pd_8 : parseMethodDescriptor "(Lcom/example/endless_runs/endlessruns/hoa/HoaLexer$Kind;Ljava/lang/String;III)V" = some ⟨[(.object "com/example/endless_runs/endlessruns/hoa/HoaLexer$Kind"), (.object "java/lang/String"), .int, .int, .int], none⟩ := by decide +kernel
theorem pd_9 : parseMethodDescriptor "(Lcom/example/endless_runs/endlessruns/hoa/HoaLexer$Kind;Ljava/lang/String;)Z" = some ⟨[(.object "com/example/endless_runs/endlessruns/hoa/HoaLexer$Kind"), (.object "java/lang/String")], some .boolean⟩ := by decide +kernel
theorem ef_law (mi : MethodId) (x0 : Int32) (x1 : Int32) (x2 : Int32) (x3 : Int32) (x4 : Int32) : entryFrame mi #[(.int x0), (.int x1), (.int x2), (.int x3), (.int x4)] maxLocals = mkF mi 0 #[.val (.int x0), .val (.int x1), .val (.int x2), .val (.int x3), .val (.int x4), .unset, .unset, .unset, .unset, .unset, .unset, .unset, .unset, .unset, .unset, .unset, .unset, .unset, .unset] [] := by first | (simp [entryFrame, mkF, argsToLocals, Value.category, maxLocals]; done) | rfl
def Q_law (Z : State) (x0 : Int32) (x1 : Int32) (x2 : Int32) (x3 : Int32) (x4 : Int32) (K : Nat → Addr) (zc : Int32) (hE : Heap) (n0 : Nat) (vv : Option Value) (hh : Heap) (LL : List Loc) : Prop := (vv = some (.int (1 : Int32))) ∧ (Fr n0 LL)
set_option maxRecDepth 65536 in
set_option maxHeartbeats 40000000 in
theorem rm_law (la : Launch) (Z : State) (a0 : Array Value) (hw : ∀ d ∈ tables_1, d.before a0 Z = true) (ws : List Jvm.Cond) (x0 : Int32) (x1 : Int32) (x2 : Int32) (x3 : Int32) (x4 : Int32) (K : Nat → Addr) (zc : Int32) (hE : Heap) (n0 : Nat) (O : Old Z n0 hE) (D0_ : Sta Z Z.heap "com/example/endless_runs/endlessruns/hoa/HoaLexer$Kind" "HEADER_NAME" "Lcom/example/endless_runs/endlessruns/hoa/HoaLexer$Kind;" (.ref (K 0))) (D1_ : Sta Z Z.heap "com/example/endless_runs/endlessruns/hoa/HoaLexer$Kind" "IDENTIFIER" "Lcom/example/endless_runs/endlessruns/hoa/HoaLexer$Kind;" (.ref (K 1))) (D2_ : Sta Z Z.heap "com/example/endless_runs/endlessruns/hoa/HoaLexer$Kind" "INTEGER" "Lcom/example/endless_runs/endlessruns/hoa/HoaLexer$Kind;" (.ref (K 2))) (D3_ : Sta Z Z.heap "com/example/endless_runs/endlessruns/hoa/HoaLexer$Kind" "STRING" "Lcom/example/endless_runs/endlessruns/hoa/HoaLexer$Kind;" (.ref (K 3))) (D4_ : Sta Z Z.heap "com/example/endless_runs/endlessruns/hoa/HoaLexer$Kind" "ALIAS" "Lcom/example/endless_runs/endlessruns/hoa/HoaLexer$Kind;" (.ref (K 4))) (D5_ : Sta Z Z.heap "com/example/endless_runs/endlessruns/hoa/HoaLexer$Kind" "NOT" "Lcom/example/endless_runs/endlessruns/hoa/HoaLexer$Kind;" (.ref (K 5))) (D6_ : Sta Z Z.heap "com/example/endless_runs/endlessruns/hoa/HoaLexer$Kind" "AND" "Lcom/example/endless_runs/endlessruns/hoa/HoaLexer$Kind;" (.ref (K 6))) (D7_ : Sta Z Z.heap "com/example/endless_runs/endlessruns/hoa/HoaLexer$Kind" "OR" "Lcom/example/endless_runs/endlessruns/hoa/HoaLexer$Kind;" (.ref (K 7))) (D8_ : Sta Z Z.heap "com/example/endless_runs/endlessruns/hoa/HoaLexer$Kind" "LEFT_PAREN" "Lcom/example/endless_runs/endlessruns/hoa/HoaLexer$Kind;" (.ref (K 8))) (D9_ : Sta Z Z.heap "com/example/endless_runs/endlessruns/hoa/HoaLexer$Kind" "RIGHT_PAREN" "Lcom/example/endless_runs/endlessruns/hoa/HoaLexer$Kind;" (.ref (K 9))) (D10_ : Sta Z Z.heap "com/example/endless_runs/endlessruns/hoa/HoaLexer$Kind" "LEFT_BRACKET" "Lcom/example/endless_runs/endlessruns/hoa/HoaLexer$Kind;" (.ref (K 10))) (D11_ : Sta Z Z.heap "com/example/endless_runs/endlessruns/hoa/HoaLexer$Kind" "RIGHT_BRACKET" "Lcom/example/endless_runs/endlessruns/hoa/HoaLexer$Kind;" (.ref (K 11))) (D12_ : Sta Z Z.heap "com/example/endless_runs/endlessruns/hoa/HoaLexer$Kind" "LEFT_BRACE" "Lcom/example/endless_runs/endlessruns/hoa/HoaLexer$Kind;" (.ref (K 12))) (D13_ : Sta Z Z.heap "com/example/endless_runs/endlessruns/hoa/HoaLexer$Kind" "RIGHT_BRACE" "Lcom/example/endless_runs/endlessruns/hoa/HoaLexer$Kind;" (.ref (K 13))) (D14_ : Sta Z Z.heap "com/example/endless_runs/endlessruns/hoa/HoaLexer$Kind" "BODY" "Lcom/example/endless_runs/endlessruns/hoa/HoaLexer$Kind;" (.ref (K 14))) (D15_ : Sta Z Z.heap "com/example/endless_runs/endlessruns/hoa/HoaLexer$Kind" "END" "Lcom/example/endless_runs/endlessruns/hoa/HoaLexer$Kind;" (.ref (K 15))) (D16_ : Sta Z Z.heap "com/example/endless_runs/endlessruns/hoa/HoaLexer$Kind" "ABORT" "Lcom/example/endless_runs/endlessruns/hoa/HoaLexer$Kind;" (.ref (K 16))) (D17_ : Sta Z Z.heap "com/example/endless_runs/endlessruns/hoa/HoaLexer$Kind" "END_OF_INPUT" "Lcom/example/endless_runs/endlessruns/hoa/HoaLexer$Kind;" (.ref (K 17))) (D18_ : Sta Z Z.heap "java/lang/String" "COMPACT_STRINGS" "Z" (.int zc)) (hK : ∀ a b, a < 18 → b < 18 → K a = K b → a = b) (hzc : ¬ (zc = (0 : Int32))) :
    MetFree la x (head1 (Jvm.Cond.code x code maxLocals ret :: ws) room_1) (fun aa UU => aa = #[(.int x0), (.int x1), (.int x2), (.int x3), (.int x4)] ∧ Z.Warmed39 UU.vm ∧ UU.heap = hE ∧ CHv Z ELs UU.vm hE) (fun _ _ _ _ _ => True) (fun _ UU oo UV => ∃ vv LL, oo = .returned vv ∧ Q_law Z x0 x1 x2 x3 x4 K zc hE n0 vv UV.heap LL ∧ CHr Z ELs UU.vm UU.heap UV.vm UV.heap ∧ ReturnedEndW UU oo UV LL room_1.cells room_1.slots) := by
  refine MetFree.of_bodySF (plainFor_of_name pn_com_example_endless_runs_endlessruns_hoa_TokenIsPinLaw) hisR ?_
  intro pg ev sb mi gs below me cd s₁ Bd hml0 hPt hKt
  obtain ⟨rfl, hZ, hh, hH⟩ := hPt
  have hx := Bd.exec
  have hby := Bd.bytes
  have hml : cd.maxLocals = 19 := hml0
  have hown : sb.vm.findClass "com/example/endless_runs/endlessruns/hoa/TokenIsPinLaw" = some mi.cls := findClass_of_methodNamed Bd.named
  have hnm := (name_of_methodNamed Bd.named Bd.method).1
  have X0 : Stand pg la ev room_1 (sb.setVm sb.vm) mi #[(.int x0), (.int x1), (.int x2), (.int x3), (.int x4)] below me cd s₁ [] 0 0 := Stand.of_body Bd
  have eE : s₁.heap = hE := by rw [← hh, Bd.state]; rfl
  have N0 := Fr.nil n0
  have pre0 : ∀ tt, Steps pg.tables ev below (s₁.setTop (mkF mi 0 #[.val (.int x0), .val (.int x1), .val (.int x2), .val (.int x3), .val (.int x4), .unset, .unset, .unset, .unset, .unset, .unset, .unset, .unset, .unset, .unset, .unset, .unset, .unset, .unset] [])) tt → Steps pg.tables ev below (s₁.setTop (entryFrame mi #[(.int x0), (.int x1), (.int x2), (.int x3), (.int x4)] maxLocals)) tt := fun tt kk => castTop (ef_law mi x0 x1 x2 x3 x4) kk
  have hS : sb.Since sb.vm 0 := (State.WarmedH.refl sb).since 0
  have hk : 0 ≤ hE.size := Nat.zero_le _
  have hEL := own_EW hw
  have C0 := CHr.refl hH
  obtain ⟨i1, he_i1⟩ : ∃ z, z = ((x0 &&& (2147483647 : Int32)) % (18 : Int32)) := ⟨_, rfl⟩
  have pre101 : ∀ tt, Steps pg.tables ev below (s₁.setTop (mkF mi 7 #[.val (.int x0), .val (.int x1), .val (.int x2), .val (.int x3), .val (.int x4), .unset, .unset, .unset, .unset, .unset, .unset, .unset, .unset, .unset, .unset, .unset, .unset, .unset, .unset] [(.int ((x0 &&& (2147483647 : Int32)) % (18 : Int32)))])) tt → Steps pg.tables ev below (s₁.setTop (entryFrame mi #[(.int x0), (.int x1), (.int x2), (.int x3), (.int x4)] maxLocals)) tt := fun tt kk => pre0 _ (by
    show Steps pg.tables ev below (s₁.setTop (mkF mi 0 #[.val (.int x0), .val (.int x1), .val (.int x2), .val (.int x3), .val (.int x4), .unset, .unset, .unset, .unset, .unset, .unset, .unset, .unset, .unset, .unset, .unset, .unset, .unset, .unset] [])) _
    refine XS.iloadN X0.here hx rfl (hb hby at_0) rfl ?_
    show Steps pg.tables ev below (s₁.setTop (mkF mi 1 #[.val (.int x0), .val (.int x1), .val (.int x2), .val (.int x3), .val (.int x4), .unset, .unset, .unset, .unset, .unset, .unset, .unset, .unset, .unset, .unset, .unset, .unset, .unset, .unset] [(.int x0)])) _
    refine X0.ldcInt hx hown (mvT hZ (wd0 hw)) (g := (mkF mi 1 #[.val (.int x0), .val (.int x1), .val (.int x2), .val (.int x3), .val (.int x4), .unset, .unset, .unset, .unset, .unset, .unset, .unset, .unset, .unset, .unset, .unset, .unset, .unset, .unset] [(.int x0)])) rfl (hb hby at_1) _ ?_
    show Steps pg.tables ev below (s₁.setTop (mkF mi 3 #[.val (.int x0), .val (.int x1), .val (.int x2), .val (.int x3), .val (.int x4), .unset, .unset, .unset, .unset, .unset, .unset, .unset, .unset, .unset, .unset, .unset, .unset, .unset, .unset] [(.int (2147483647 : Int32)), (.int x0)])) _
    refine XS.iand X0.here hx rfl (hb hby at_3) rfl ?_
    show Steps pg.tables ev below (s₁.setTop (mkF mi 4 #[.val (.int x0), .val (.int x1), .val (.int x2), .val (.int x3), .val (.int x4), .unset, .unset, .unset, .unset, .unset, .unset, .unset, .unset, .unset, .unset, .unset, .unset, .unset, .unset] [(.int (x0 &&& (2147483647 : Int32)))])) _
    refine XS.bipush X0.here hx rfl (hb hby at_4) ?_
    show Steps pg.tables ev below (s₁.setTop (mkF mi 6 #[.val (.int x0), .val (.int x1), .val (.int x2), .val (.int x3), .val (.int x4), .unset, .unset, .unset, .unset, .unset, .unset, .unset, .unset, .unset, .unset, .unset, .unset, .unset, .unset] [(.int (18 : Int32)), (.int (x0 &&& (2147483647 : Int32)))])) _
    refine iremM X0 hx rfl (hb hby at_6) rfl (by decide) ?_
    exact kk)
  have pre102 : ∀ tt, Steps pg.tables ev below (s₁.setTop (mkF mi 7 #[.val (.int x0), .val (.int x1), .val (.int x2), .val (.int x3), .val (.int x4), .unset, .unset, .unset, .unset, .unset, .unset, .unset, .unset, .unset, .unset, .unset, .unset, .unset, .unset] [(.int i1)])) tt → Steps pg.tables ev below (s₁.setTop (entryFrame mi #[(.int x0), (.int x1), (.int x2), (.int x3), (.int x4)] maxLocals)) tt := fun tt kk => pre101 tt (by rw [← he_i1]; exact kk)
  have b_i1 : ¬ (i1 < (0 : Int32)) ∧ i1 < (18 : Int32) := he_i1 ▸ own_m18 _
  have z_i1 : ¬ (i1 < (0 : Int32)) := b_i1.1
  have y_i1 : i1 < (18 : Int32) := b_i1.2
  have pre103 : ∀ tt, Steps pg.tables ev below (s₁.setTop (mkF mi 12 #[.val (.int x0), .val (.int x1), .val (.int x2), .val (.int x3), .val (.int x4), .val (.int i1), .unset, .unset, .unset, .unset, .unset, .unset, .unset, .unset, .unset, .unset, .unset, .unset, .unset] [(.int (x3 &&& (1 : Int32)))])) tt → Steps pg.tables ev below (s₁.setTop (entryFrame mi #[(.int x0), (.int x1), (.int x2), (.int x3), (.int x4)] maxLocals)) tt := fun tt kk => pre102 _ (by
    show Steps pg.tables ev below (s₁.setTop (mkF mi 7 #[.val (.int x0), .val (.int x1), .val (.int x2), .val (.int x3), .val (.int x4), .unset, .unset, .unset, .unset, .unset, .unset, .unset, .unset, .unset, .unset, .unset, .unset, .unset, .unset] [(.int i1)])) _
    refine XS.istore X0.here hx rfl (hb hby at_7) rfl (l' := #[.val (.int x0), .val (.int x1), .val (.int x2), .val (.int x3), .val (.int x4), .val (.int i1), .unset, .unset, .unset, .unset, .unset, .unset, .unset, .unset, .unset, .unset, .unset, .unset, .unset]) rfl ?_
    show Steps pg.tables ev below (s₁.setTop (mkF mi 9 #[.val (.int x0), .val (.int x1), .val (.int x2), .val (.int x3), .val (.int x4), .val (.int i1), .unset, .unset, .unset, .unset, .unset, .unset, .unset, .unset, .unset, .unset, .unset, .unset, .unset] [])) _
    refine XS.iloadN X0.here hx rfl (hb hby at_9) rfl ?_
    show Steps pg.tables ev below (s₁.setTop (mkF mi 10 #[.val (.int x0), .val (.int x1), .val (.int x2), .val (.int x3), .val (.int x4), .val (.int i1), .unset, .unset, .unset, .unset, .unset, .unset, .unset, .unset, .unset, .unset, .unset, .unset, .unset] [(.int x3)])) _
    refine XS.iconst X0.here hx rfl (hb hby at_10) ?_
    show Steps pg.tables ev below (s₁.setTop (mkF mi 11 #[.val (.int x0), .val (.int x1), .val (.int x2), .val (.int x3), .val (.int x4), .val (.int i1), .unset, .unset, .unset, .unset, .unset, .unset, .unset, .unset, .unset, .unset, .unset, .unset, .unset] [(.int (1 : Int32)), (.int x3)])) _
    refine XS.iand X0.here hx rfl (hb hby at_11) rfl ?_
    exact kk)
  have pre105 : ∀ tt, Steps pg.tables ev below (s₁.setTop (mkF mi 30 #[.val (.int x0), .val (.int x1), .val (.int x2), .val (.int x3), .val (.int x4), .val (.int i1), .unset, .unset, .unset, .unset, .unset, .unset, .unset, .unset, .unset, .unset, .unset, .unset, .unset] [(.int (if (x3 &&& (1 : Int32)) = (0 : Int32) then ((((x0.toUInt32 >>> ((8 : Int32) &&& 31).toUInt32).toInt32) &&& (2147483647 : Int32)) % (18 : Int32)) else i1))])) tt → Steps pg.tables ev below (s₁.setTop (entryFrame mi #[(.int x0), (.int x1), (.int x2), (.int x3), (.int x4)] maxLocals)) tt := fun tt kk => pre103 _ (by
    by_cases hm104 : (x3 &&& (1 : Int32)) = (0 : Int32)
    · try simp only [if_pos hm104] at kk
      show Steps pg.tables ev below (s₁.setTop (mkF mi 12 #[.val (.int x0), .val (.int x1), .val (.int x2), .val (.int x3), .val (.int x4), .val (.int i1), .unset, .unset, .unset, .unset, .unset, .unset, .unset, .unset, .unset, .unset, .unset, .unset, .unset] [(.int (x3 &&& (1 : Int32)))])) _
      refine XS.ifYes X0.here hx rfl (pc0 := 12) (pc' := 20) rfl (hb hby at_12) rfl ((if0 _ _).trans (teq hm104).1) (by decide) (by decide) ?_
      show Steps pg.tables ev below (s₁.setTop (mkF mi 20 #[.val (.int x0), .val (.int x1), .val (.int x2), .val (.int x3), .val (.int x4), .val (.int i1), .unset, .unset, .unset, .unset, .unset, .unset, .unset, .unset, .unset, .unset, .unset, .unset, .unset] [])) _
      refine XS.iloadN X0.here hx rfl (hb hby at_20) rfl ?_
      show Steps pg.tables ev below (s₁.setTop (mkF mi 21 #[.val (.int x0), .val (.int x1), .val (.int x2), .val (.int x3), .val (.int x4), .val (.int i1), .unset, .unset, .unset, .unset, .unset, .unset, .unset, .unset, .unset, .unset, .unset, .unset, .unset] [(.int x0)])) _
      refine XS.bipush X0.here hx rfl (hb hby at_21) ?_
      show Steps pg.tables ev below (s₁.setTop (mkF mi 23 #[.val (.int x0), .val (.int x1), .val (.int x2), .val (.int x3), .val (.int x4), .val (.int i1), .unset, .unset, .unset, .unset, .unset, .unset, .unset, .unset, .unset, .unset, .unset, .unset, .unset] [(.int (8 : Int32)), (.int x0)])) _
      refine XS.iushr X0.here hx rfl (hb hby at_23) rfl ?_
      show Steps pg.tables ev below (s₁.setTop (mkF mi 24 #[.val (.int x0), .val (.int x1), .val (.int x2), .val (.int x3), .val (.int x4), .val (.int i1), .unset, .unset, .unset, .unset, .unset, .unset, .unset, .unset, .unset, .unset, .unset, .unset, .unset] [(.int ((x0.toUInt32 >>> ((8 : Int32) &&& 31).toUInt32).toInt32))])) _
      refine X0.ldcInt hx hown (mvT hZ (wd0 hw)) (g := (mkF mi 24 #[.val (.int x0), .val (.int x1), .val (.int x2), .val (.int x3), .val (.int x4), .val (.int i1), .unset, .unset, .unset, .unset, .unset, .unset, .unset, .unset, .unset, .unset, .unset, .unset, .unset] [(.int ((x0.toUInt32 >>> ((8 : Int32) &&& 31).toUInt32).toInt32))])) rfl (hb hby at_24) _ ?_
      show Steps pg.tables ev below (s₁.setTop (mkF mi 26 #[.val (.int x0), .val (.int x1), .val (.int x2), .val (.int x3), .val (.int x4), .val (.int i1), .unset, .unset, .unset, .unset, .unset, .unset, .unset, .unset, .unset, .unset, .unset, .unset, .unset] [(.int (2147483647 : Int32)), (.int ((x0.toUInt32 >>> ((8 : Int32) &&& 31).toUInt32).toInt32))])) _
      refine XS.iand X0.here hx rfl (hb hby at_26) rfl ?_
      show Steps pg.tables ev below (s₁.setTop (mkF mi 27 #[.val (.int x0), .val (.int x1), .val (.int x2), .val (.int x3), .val (.int x4), .val (.int i1), .unset, .unset, .unset, .unset, .unset, .unset, .unset, .unset, .unset, .unset, .unset, .unset, .unset] [(.int (((x0.toUInt32 >>> ((8 : Int32) &&& 31).toUInt32).toInt32) &&& (2147483647 : Int32)))])) _
      refine XS.bipush X0.here hx rfl (hb hby at_27) ?_
      show Steps pg.tables ev below (s₁.setTop (mkF mi 29 #[.val (.int x0), .val (.int x1), .val (.int x2), .val (.int x3), .val (.int x4), .val (.int i1), .unset, .unset, .unset, .unset, .unset, .unset, .unset, .unset, .unset, .unset, .unset, .unset, .unset] [(.int (18 : Int32)), (.int (((x0.toUInt32 >>> ((8 : Int32) &&& 31).toUInt32).toInt32) &&& (2147483647 : Int32)))])) _
      refine iremM X0 hx rfl (hb hby at_29) rfl (by decide) ?_
      exact kk
    · try simp only [if_neg hm104] at kk
      show Steps pg.tables ev below (s₁.setTop (mkF mi 12 #[.val (.int x0), .val (.int x1), .val (.int x2), .val (.int x3), .val (.int x4), .val (.int i1), .unset, .unset, .unset, .unset, .unset, .unset, .unset, .unset, .unset, .unset, .unset, .unset, .unset] [(.int (x3 &&& (1 : Int32)))])) _
      refine XS.ifNo X0.here hx rfl (hb hby at_12) rfl ((if0 _ _).trans (feq hm104).1) ?_
      show Steps pg.tables ev below (s₁.setTop (mkF mi 15 #[.val (.int x0), .val (.int x1), .val (.int x2), .val (.int x3), .val (.int x4), .val (.int i1), .unset, .unset, .unset, .unset, .unset, .unset, .unset, .unset, .unset, .unset, .unset, .unset, .unset] [])) _
      refine XS.iload X0.here hx rfl (hb hby at_15) rfl ?_
      show Steps pg.tables ev below (s₁.setTop (mkF mi 17 #[.val (.int x0), .val (.int x1), .val (.int x2), .val (.int x3), .val (.int x4), .val (.int i1), .unset, .unset, .unset, .unset, .unset, .unset, .unset, .unset, .unset, .unset, .unset, .unset, .unset] [(.int i1)])) _
      refine XS.goto X0.here hx rfl (pc0 := 17) (pc' := 30) rfl (hb hby at_17) (by decide) (by decide) ?_
      exact kk)
  obtain ⟨i2, he_i2⟩ : ∃ z, z = (if (x3 &&& (1 : Int32)) = (0 : Int32) then ((((x0.toUInt32 >>> ((8 : Int32) &&& 31).toUInt32).toInt32) &&& (2147483647 : Int32)) % (18 : Int32)) else i1) := ⟨_, rfl⟩
  have pre106 : ∀ tt, Steps pg.tables ev below (s₁.setTop (mkF mi 30 #[.val (.int x0), .val (.int x1), .val (.int x2), .val (.int x3), .val (.int x4), .val (.int i1), .unset, .unset, .unset, .unset, .unset, .unset, .unset, .unset, .unset, .unset, .unset, .unset, .unset] [(.int i2)])) tt → Steps pg.tables ev below (s₁.setTop (entryFrame mi #[(.int x0), (.int x1), (.int x2), (.int x3), (.int x4)] maxLocals)) tt := fun tt kk => pre105 tt (by rw [← he_i2]; exact kk)
  have b_i2 : ¬ (i2 < (0 : Int32)) ∧ i2 < (18 : Int32) := he_i2 ▸ own_ite (P := fun z => ¬ z < (0 : Int32)) (Q := fun z => z < (18 : Int32)) (own_m18 _) b_i1
  have z_i2 : ¬ (i2 < (0 : Int32)) := b_i2.1
  have y_i2 : i2 < (18 : Int32) := b_i2.2
  obtain ⟨t0, he_t0⟩ : ∃ z, z = ((x1 &&& (255 : Int32)).toUInt32.toUInt16.toUInt32.toInt32) := ⟨_, rfl⟩
  have pre107 : ∀ tt, Steps pg.tables ev below (s₁.setTop (mkF mi 38 #[.val (.int x0), .val (.int x1), .val (.int x2), .val (.int x3), .val (.int x4), .val (.int i1), .val (.int i2), .unset, .unset, .unset, .unset, .unset, .unset, .unset, .unset, .unset, .unset, .unset, .unset] [(.int ((x1 &&& (255 : Int32)).toUInt32.toUInt16.toUInt32.toInt32))])) tt → Steps pg.tables ev below (s₁.setTop (entryFrame mi #[(.int x0), (.int x1), (.int x2), (.int x3), (.int x4)] maxLocals)) tt := fun tt kk => pre106 _ (by
    show Steps pg.tables ev below (s₁.setTop (mkF mi 30 #[.val (.int x0), .val (.int x1), .val (.int x2), .val (.int x3), .val (.int x4), .val (.int i1), .unset, .unset, .unset, .unset, .unset, .unset, .unset, .unset, .unset, .unset, .unset, .unset, .unset] [(.int i2)])) _
    refine XS.istore X0.here hx rfl (hb hby at_30) rfl (l' := #[.val (.int x0), .val (.int x1), .val (.int x2), .val (.int x3), .val (.int x4), .val (.int i1), .val (.int i2), .unset, .unset, .unset, .unset, .unset, .unset, .unset, .unset, .unset, .unset, .unset, .unset]) rfl ?_
    show Steps pg.tables ev below (s₁.setTop (mkF mi 32 #[.val (.int x0), .val (.int x1), .val (.int x2), .val (.int x3), .val (.int x4), .val (.int i1), .val (.int i2), .unset, .unset, .unset, .unset, .unset, .unset, .unset, .unset, .unset, .unset, .unset, .unset] [])) _
    refine XS.iloadN X0.here hx rfl (hb hby at_32) rfl ?_
    show Steps pg.tables ev below (s₁.setTop (mkF mi 33 #[.val (.int x0), .val (.int x1), .val (.int x2), .val (.int x3), .val (.int x4), .val (.int i1), .val (.int i2), .unset, .unset, .unset, .unset, .unset, .unset, .unset, .unset, .unset, .unset, .unset, .unset] [(.int x1)])) _
    refine XS.sipush X0.here hx rfl (hb hby at_33) ?_
    show Steps pg.tables ev below (s₁.setTop (mkF mi 36 #[.val (.int x0), .val (.int x1), .val (.int x2), .val (.int x3), .val (.int x4), .val (.int i1), .val (.int i2), .unset, .unset, .unset, .unset, .unset, .unset, .unset, .unset, .unset, .unset, .unset, .unset] [(.int (255 : Int32)), (.int x1)])) _
    refine XS.iand X0.here hx rfl (hb hby at_36) rfl ?_
    show Steps pg.tables ev below (s₁.setTop (mkF mi 37 #[.val (.int x0), .val (.int x1), .val (.int x2), .val (.int x3), .val (.int x4), .val (.int i1), .val (.int i2), .unset, .unset, .unset, .unset, .unset, .unset, .unset, .unset, .unset, .unset, .unset, .unset] [(.int (x1 &&& (255 : Int32)))])) _
    refine XS.i2c X0.here hx rfl (hb hby at_37) rfl ?_
    exact kk)
  have pre108 : ∀ tt, Steps pg.tables ev below (s₁.setTop (mkF mi 38 #[.val (.int x0), .val (.int x1), .val (.int x2), .val (.int x3), .val (.int x4), .val (.int i1), .val (.int i2), .unset, .unset, .unset, .unset, .unset, .unset, .unset, .unset, .unset, .unset, .unset, .unset] [(.int t0)])) tt → Steps pg.tables ev below (s₁.setTop (entryFrame mi #[(.int x0), (.int x1), (.int x2), (.int x3), (.int x4)] maxLocals)) tt := fun tt kk => pre107 tt (by rw [← he_t0]; exact kk)
  have b_t0 : ¬ (t0 < (0 : Int32)) ∧ ¬ ((255 : Int32) < t0) := he_t0 ▸ own_c255 _
  have z_t0 : ¬ (t0 < (0 : Int32)) := b_t0.1
  have y_t0 : ¬ ((255 : Int32) < t0) := b_t0.2
  obtain ⟨t1, he_t1⟩ : ∃ z, z = ((((x1.toUInt32 >>> ((8 : Int32) &&& 31).toUInt32).toInt32) &&& (255 : Int32)).toUInt32.toUInt16.toUInt32.toInt32) := ⟨_, rfl⟩
  have pre109 : ∀ tt, Steps pg.tables ev below (s₁.setTop (mkF mi 49 #[.val (.int x0), .val (.int x1), .val (.int x2), .val (.int x3), .val (.int x4), .val (.int i1), .val (.int i2), .val (.int t0), .unset, .unset, .unset, .unset, .unset, .unset, .unset, .unset, .unset, .unset, .unset] [(.int ((((x1.toUInt32 >>> ((8 : Int32) &&& 31).toUInt32).toInt32) &&& (255 : Int32)).toUInt32.toUInt16.toUInt32.toInt32))])) tt → Steps pg.tables ev below (s₁.setTop (entryFrame mi #[(.int x0), (.int x1), (.int x2), (.int x3), (.int x4)] maxLocals)) tt := fun tt kk => pre108 _ (by
    show Steps pg.tables ev below (s₁.setTop (mkF mi 38 #[.val (.int x0), .val (.int x1), .val (.int x2), .val (.int x3), .val (.int x4), .val (.int i1), .val (.int i2), .unset, .unset, .unset, .unset, .unset, .unset, .unset, .unset, .unset, .unset, .unset, .unset] [(.int t0)])) _
    refine XS.istore X0.here hx rfl (hb hby at_38) rfl (l' := #[.val (.int x0), .val (.int x1), .val (.int x2), .val (.int x3), .val (.int x4), .val (.int i1), .val (.int i2), .val (.int t0), .unset, .unset, .unset, .unset, .unset, .unset, .unset, .unset, .unset, .unset, .unset]) rfl ?_
    show Steps pg.tables ev below (s₁.setTop (mkF mi 40 #[.val (.int x0), .val (.int x1), .val (.int x2), .val (.int x3), .val (.int x4), .val (.int i1), .val (.int i2), .val (.int t0), .unset, .unset, .unset, .unset, .unset, .unset, .unset, .unset, .unset, .unset, .unset] [])) _
    refine XS.iloadN X0.here hx rfl (hb hby at_40) rfl ?_
    show Steps pg.tables ev below (s₁.setTop (mkF mi 41 #[.val (.int x0), .val (.int x1), .val (.int x2), .val (.int x3), .val (.int x4), .val (.int i1), .val (.int i2), .val (.int t0), .unset, .unset, .unset, .unset, .unset, .unset, .unset, .unset, .unset, .unset, .unset] [(.int x1)])) _
    refine XS.bipush X0.here hx rfl (hb hby at_41) ?_
    show Steps pg.tables ev below (s₁.setTop (mkF mi 43 #[.val (.int x0), .val (.int x1), .val (.int x2), .val (.int x3), .val (.int x4), .val (.int i1), .val (.int i2), .val (.int t0), .unset, .unset, .unset, .unset, .unset, .unset, .unset, .unset, .unset, .unset, .unset] [(.int (8 : Int32)), (.int x1)])) _
    refine XS.iushr X0.here hx rfl (hb hby at_43) rfl ?_
    show Steps pg.tables ev below (s₁.setTop (mkF mi 44 #[.val (.int x0), .val (.int x1), .val (.int x2), .val (.int x3), .val (.int x4), .val (.int i1), .val (.int i2), .val (.int t0), .unset, .unset, .unset, .unset, .unset, .unset, .unset, .unset, .unset, .unset, .unset] [(.int ((x1.toUInt32 >>> ((8 : Int32) &&& 31).toUInt32).toInt32))])) _
    refine XS.sipush X0.here hx rfl (hb hby at_44) ?_
    show Steps pg.tables ev below (s₁.setTop (mkF mi 47 #[.val (.int x0), .val (.int x1), .val (.int x2), .val (.int x3), .val (.int x4), .val (.int i1), .val (.int i2), .val (.int t0), .unset, .unset, .unset, .unset, .unset, .unset, .unset, .unset, .unset, .unset, .unset] [(.int (255 : Int32)), (.int ((x1.toUInt32 >>> ((8 : Int32) &&& 31).toUInt32).toInt32))])) _
    refine XS.iand X0.here hx rfl (hb hby at_47) rfl ?_
    show Steps pg.tables ev below (s₁.setTop (mkF mi 48 #[.val (.int x0), .val (.int x1), .val (.int x2), .val (.int x3), .val (.int x4), .val (.int i1), .val (.int i2), .val (.int t0), .unset, .unset, .unset, .unset, .unset, .unset, .unset, .unset, .unset, .unset, .unset] [(.int (((x1.toUInt32 >>> ((8 : Int32) &&& 31).toUInt32).toInt32) &&& (255 : Int32)))])) _
    refine XS.i2c X0.here hx rfl (hb hby at_48) rfl ?_
    exact kk)
  have pre110 : ∀ tt, Steps pg.tables ev below (s₁.setTop (mkF mi 49 #[.val (.int x0), .val (.int x1), .val (.int x2), .val (.int x3), .val (.int x4), .val (.int i1), .val (.int i2), .val (.int t0), .unset, .unset, .unset, .unset, .unset, .unset, .unset, .unset, .unset, .unset, .unset] [(.int t1)])) tt → Steps pg.tables ev below (s₁.setTop (entryFrame mi #[(.int x0), (.int x1), (.int x2), (.int x3), (.int x4)] maxLocals)) tt := fun tt kk => pre109 tt (by rw [← he_t1]; exact kk)
  have b_t1 : ¬ (t1 < (0 : Int32)) ∧ ¬ ((255 : Int32) < t1) := he_t1 ▸ own_c255 _
  have z_t1 : ¬ (t1 < (0 : Int32)) := b_t1.1
  have y_t1 : ¬ ((255 : Int32) < t1) := b_t1.2
  have pre111 : ∀ tt, Steps pg.tables ev below (s₁.setTop (mkF mi 54 #[.val (.int x0), .val (.int x1), .val (.int x2), .val (.int x3), .val (.int x4), .val (.int i1), .val (.int i2), .val (.int t0), .val (.int t1), .unset, .unset, .unset, .unset, .unset, .unset, .unset, .unset, .unset, .unset] [(.int (x3 &&& (2 : Int32)))])) tt → Steps pg.tables ev below (s₁.setTop (entryFrame mi #[(.int x0), (.int x1), (.int x2), (.int x3), (.int x4)] maxLocals)) tt := fun tt kk => pre110 _ (by
    show Steps pg.tables ev below (s₁.setTop (mkF mi 49 #[.val (.int x0), .val (.int x1), .val (.int x2), .val (.int x3), .val (.int x4), .val (.int i1), .val (.int i2), .val (.int t0), .unset, .unset, .unset, .unset, .unset, .unset, .unset, .unset, .unset, .unset, .unset] [(.int t1)])) _
    refine XS.istore X0.here hx rfl (hb hby at_49) rfl (l' := #[.val (.int x0), .val (.int x1), .val (.int x2), .val (.int x3), .val (.int x4), .val (.int i1), .val (.int i2), .val (.int t0), .val (.int t1), .unset, .unset, .unset, .unset, .unset, .unset, .unset, .unset, .unset, .unset]) rfl ?_
    show Steps pg.tables ev below (s₁.setTop (mkF mi 51 #[.val (.int x0), .val (.int x1), .val (.int x2), .val (.int x3), .val (.int x4), .val (.int i1), .val (.int i2), .val (.int t0), .val (.int t1), .unset, .unset, .unset, .unset, .unset, .unset, .unset, .unset, .unset, .unset] [])) _
    refine XS.iloadN X0.here hx rfl (hb hby at_51) rfl ?_
    show Steps pg.tables ev below (s₁.setTop (mkF mi 52 #[.val (.int x0), .val (.int x1), .val (.int x2), .val (.int x3), .val (.int x4), .val (.int i1), .val (.int i2), .val (.int t0), .val (.int t1), .unset, .unset, .unset, .unset, .unset, .unset, .unset, .unset, .unset, .unset] [(.int x3)])) _
    refine XS.iconst X0.here hx rfl (hb hby at_52) ?_
    show Steps pg.tables ev below (s₁.setTop (mkF mi 53 #[.val (.int x0), .val (.int x1), .val (.int x2), .val (.int x3), .val (.int x4), .val (.int i1), .val (.int i2), .val (.int t0), .val (.int t1), .unset, .unset, .unset, .unset, .unset, .unset, .unset, .unset, .unset, .unset] [(.int (2 : Int32)), (.int x3)])) _
    refine XS.iand X0.here hx rfl (hb hby at_53) rfl ?_
    exact kk)
  have pre113 : ∀ tt, Steps pg.tables ev below (s₁.setTop (mkF mi 68 #[.val (.int x0), .val (.int x1), .val (.int x2), .val (.int x3), .val (.int x4), .val (.int i1), .val (.int i2), .val (.int t0), .val (.int t1), .unset, .unset, .unset, .unset, .unset, .unset, .unset, .unset, .unset, .unset] [(.int (if (x3 &&& (2 : Int32)) = (0 : Int32) then ((x2 &&& (255 : Int32)).toUInt32.toUInt16.toUInt32.toInt32) else t0))])) tt → Steps pg.tables ev below (s₁.setTop (entryFrame mi #[(.int x0), (.int x1), (.int x2), (.int x3), (.int x4)] maxLocals)) tt := fun tt kk => pre111 _ (by
    by_cases hm112 : (x3 &&& (2 : Int32)) = (0 : Int32)
    · try simp only [if_pos hm112] at kk
      show Steps pg.tables ev below (s₁.setTop (mkF mi 54 #[.val (.int x0), .val (.int x1), .val (.int x2), .val (.int x3), .val (.int x4), .val (.int i1), .val (.int i2), .val (.int t0), .val (.int t1), .unset, .unset, .unset, .unset, .unset, .unset, .unset, .unset, .unset, .unset] [(.int (x3 &&& (2 : Int32)))])) _
      refine XS.ifYes X0.here hx rfl (pc0 := 54) (pc' := 62) rfl (hb hby at_54) rfl ((if0 _ _).trans (teq hm112).1) (by decide) (by decide) ?_
      show Steps pg.tables ev below (s₁.setTop (mkF mi 62 #[.val (.int x0), .val (.int x1), .val (.int x2), .val (.int x3), .val (.int x4), .val (.int i1), .val (.int i2), .val (.int t0), .val (.int t1), .unset, .unset, .unset, .unset, .unset, .unset, .unset, .unset, .unset, .unset] [])) _
      refine XS.iloadN X0.here hx rfl (hb hby at_62) rfl ?_
      show Steps pg.tables ev below (s₁.setTop (mkF mi 63 #[.val (.int x0), .val (.int x1), .val (.int x2), .val (.int x3), .val (.int x4), .val (.int i1), .val (.int i2), .val (.int t0), .val (.int t1), .unset, .unset, .unset, .unset, .unset, .unset, .unset, .unset, .unset, .unset] [(.int x2)])) _
      refine XS.sipush X0.here hx rfl (hb hby at_63) ?_
      show Steps pg.tables ev below (s₁.setTop (mkF mi 66 #[.val (.int x0), .val (.int x1), .val (.int x2), .val (.int x3), .val (.int x4), .val (.int i1), .val (.int i2), .val (.int t0), .val (.int t1), .unset, .unset, .unset, .unset, .unset, .unset, .unset, .unset, .unset, .unset] [(.int (255 : Int32)), (.int x2)])) _
      refine XS.iand X0.here hx rfl (hb hby at_66) rfl ?_
      show Steps pg.tables ev below (s₁.setTop (mkF mi 67 #[.val (.int x0), .val (.int x1), .val (.int x2), .val (.int x3), .val (.int x4), .val (.int i1), .val (.int i2), .val (.int t0), .val (.int t1), .unset, .unset, .unset, .unset, .unset, .unset, .unset, .unset, .unset, .unset] [(.int (x2 &&& (255 : Int32)))])) _
      refine XS.i2c X0.here hx rfl (hb hby at_67) rfl ?_
      exact kk
    · try simp only [if_neg hm112] at kk
      show Steps pg.tables ev below (s₁.setTop (mkF mi 54 #[.val (.int x0), .val (.int x1), .val (.int x2), .val (.int x3), .val (.int x4), .val (.int i1), .val (.int i2), .val (.int t0), .val (.int t1), .unset, .unset, .unset, .unset, .unset, .unset, .unset, .unset, .unset, .unset] [(.int (x3 &&& (2 : Int32)))])) _
      refine XS.ifNo X0.here hx rfl (hb hby at_54) rfl ((if0 _ _).trans (feq hm112).1) ?_
      show Steps pg.tables ev below (s₁.setTop (mkF mi 57 #[.val (.int x0), .val (.int x1), .val (.int x2), .val (.int x3), .val (.int x4), .val (.int i1), .val (.int i2), .val (.int t0), .val (.int t1), .unset, .unset, .unset, .unset, .unset, .unset, .unset, .unset, .unset, .unset] [])) _
      refine XS.iload X0.here hx rfl (hb hby at_57) rfl ?_
      show Steps pg.tables ev below (s₁.setTop (mkF mi 59 #[.val (.int x0), .val (.int x1), .val (.int x2), .val (.int x3), .val (.int x4), .val (.int i1), .val (.int i2), .val (.int t0), .val (.int t1), .unset, .unset, .unset, .unset, .unset, .unset, .unset, .unset, .unset, .unset] [(.int t0)])) _
      refine XS.goto X0.here hx rfl (pc0 := 59) (pc' := 68) rfl (hb hby at_59) (by decide) (by decide) ?_
      exact kk)
  obtain ⟨e0, he_e0⟩ : ∃ z, z = (if (x3 &&& (2 : Int32)) = (0 : Int32) then ((x2 &&& (255 : Int32)).toUInt32.toUInt16.toUInt32.toInt32) else t0) := ⟨_, rfl⟩
  have pre114 : ∀ tt, Steps pg.tables ev below (s₁.setTop (mkF mi 68 #[.val (.int x0), .val (.int x1), .val (.int x2), .val (.int x3), .val (.int x4), .val (.int i1), .val (.int i2), .val (.int t0), .val (.int t1), .unset, .unset, .unset, .unset, .unset, .unset, .unset, .unset, .unset, .unset] [(.int e0)])) tt → Steps pg.tables ev below (s₁.setTop (entryFrame mi #[(.int x0), (.int x1), (.int x2), (.int x3), (.int x4)] maxLocals)) tt := fun tt kk => pre113 tt (by rw [← he_e0]; exact kk)
  have b_e0 : ¬ (e0 < (0 : Int32)) ∧ ¬ ((255 : Int32) < e0) := he_e0 ▸ own_ite (P := fun z => ¬ z < (0 : Int32)) (Q := fun z => ¬ (255 : Int32) < z) (own_c255 _) b_t0
  have z_e0 : ¬ (e0 < (0 : Int32)) := b_e0.1
  have y_e0 : ¬ ((255 : Int32) < e0) := b_e0.2
  have pre115 : ∀ tt, Steps pg.tables ev below (s₁.setTop (mkF mi 73 #[.val (.int x0), .val (.int x1), .val (.int x2), .val (.int x3), .val (.int x4), .val (.int i1), .val (.int i2), .val (.int t0), .val (.int t1), .val (.int e0), .unset, .unset, .unset, .unset, .unset, .unset, .unset, .unset, .unset] [(.int (x3 &&& (4 : Int32)))])) tt → Steps pg.tables ev below (s₁.setTop (entryFrame mi #[(.int x0), (.int x1), (.int x2), (.int x3), (.int x4)] maxLocals)) tt := fun tt kk => pre114 _ (by
    show Steps pg.tables ev below (s₁.setTop (mkF mi 68 #[.val (.int x0), .val (.int x1), .val (.int x2), .val (.int x3), .val (.int x4), .val (.int i1), .val (.int i2), .val (.int t0), .val (.int t1), .unset, .unset, .unset, .unset, .unset, .unset, .unset, .unset, .unset, .unset] [(.int e0)])) _
    refine XS.istore X0.here hx rfl (hb hby at_68) rfl (l' := #[.val (.int x0), .val (.int x1), .val (.int x2), .val (.int x3), .val (.int x4), .val (.int i1), .val (.int i2), .val (.int t0), .val (.int t1), .val (.int e0), .unset, .unset, .unset, .unset, .unset, .unset, .unset, .unset, .unset]) rfl ?_
    show Steps pg.tables ev below (s₁.setTop (mkF mi 70 #[.val (.int x0), .val (.int x1), .val (.int x2), .val (.int x3), .val (.int x4), .val (.int i1), .val (.int i2), .val (.int t0), .val (.int t1), .val (.int e0), .unset, .unset, .unset, .unset, .unset, .unset, .unset, .unset, .unset] [])) _
    refine XS.iloadN X0.here hx rfl (hb hby at_70) rfl ?_
    show Steps pg.tables ev below (s₁.setTop (mkF mi 71 #[.val (.int x0), .val (.int x1), .val (.int x2), .val (.int x3), .val (.int x4), .val (.int i1), .val (.int i2), .val (.int t0), .val (.int t1), .val (.int e0), .unset, .unset, .unset, .unset, .unset, .unset, .unset, .unset, .unset] [(.int x3)])) _
    refine XS.iconst X0.here hx rfl (hb hby at_71) ?_
    show Steps pg.tables ev below (s₁.setTop (mkF mi 72 #[.val (.int x0), .val (.int x1), .val (.int x2), .val (.int x3), .val (.int x4), .val (.int i1), .val (.int i2), .val (.int t0), .val (.int t1), .val (.int e0), .unset, .unset, .unset, .unset, .unset, .unset, .unset, .unset, .unset] [(.int (4 : Int32)), (.int x3)])) _
    refine XS.iand X0.here hx rfl (hb hby at_72) rfl ?_
    exact kk)
  have pre117 : ∀ tt, Steps pg.tables ev below (s₁.setTop (mkF mi 90 #[.val (.int x0), .val (.int x1), .val (.int x2), .val (.int x3), .val (.int x4), .val (.int i1), .val (.int i2), .val (.int t0), .val (.int t1), .val (.int e0), .unset, .unset, .unset, .unset, .unset, .unset, .unset, .unset, .unset] [(.int (if (x3 &&& (4 : Int32)) = (0 : Int32) then ((((x2.toUInt32 >>> ((8 : Int32) &&& 31).toUInt32).toInt32) &&& (255 : Int32)).toUInt32.toUInt16.toUInt32.toInt32) else t1))])) tt → Steps pg.tables ev below (s₁.setTop (entryFrame mi #[(.int x0), (.int x1), (.int x2), (.int x3), (.int x4)] maxLocals)) tt := fun tt kk => pre115 _ (by
    by_cases hm116 : (x3 &&& (4 : Int32)) = (0 : Int32)
    · try simp only [if_pos hm116] at kk
      show Steps pg.tables ev below (s₁.setTop (mkF mi 73 #[.val (.int x0), .val (.int x1), .val (.int x2), .val (.int x3), .val (.int x4), .val (.int i1), .val (.int i2), .val (.int t0), .val (.int t1), .val (.int e0), .unset, .unset, .unset, .unset, .unset, .unset, .unset, .unset, .unset] [(.int (x3 &&& (4 : Int32)))])) _
      refine XS.ifYes X0.here hx rfl (pc0 := 73) (pc' := 81) rfl (hb hby at_73) rfl ((if0 _ _).trans (teq hm116).1) (by decide) (by decide) ?_
      show Steps pg.tables ev below (s₁.setTop (mkF mi 81 #[.val (.int x0), .val (.int x1), .val (.int x2), .val (.int x3), .val (.int x4), .val (.int i1), .val (.int i2), .val (.int t0), .val (.int t1), .val (.int e0), .unset, .unset, .unset, .unset, .unset, .unset, .unset, .unset, .unset] [])) _
      refine XS.iloadN X0.here hx rfl (hb hby at_81) rfl ?_
      show Steps pg.tables ev below (s₁.setTop (mkF mi 82 #[.val (.int x0), .val (.int x1), .val (.int x2), .val (.int x3), .val (.int x4), .val (.int i1), .val (.int i2), .val (.int t0), .val (.int t1), .val (.int e0), .unset, .unset, .unset, .unset, .unset, .unset, .unset, .unset, .unset] [(.int x2)])) _
      refine XS.bipush X0.here hx rfl (hb hby at_82) ?_
      show Steps pg.tables ev below (s₁.setTop (mkF mi 84 #[.val (.int x0), .val (.int x1), .val (.int x2), .val (.int x3), .val (.int x4), .val (.int i1), .val (.int i2), .val (.int t0), .val (.int t1), .val (.int e0), .unset, .unset, .unset, .unset, .unset, .unset, .unset, .unset, .unset] [(.int (8 : Int32)), (.int x2)])) _
      refine XS.iushr X0.here hx rfl (hb hby at_84) rfl ?_
      show Steps pg.tables ev below (s₁.setTop (mkF mi 85 #[.val (.int x0), .val (.int x1), .val (.int x2), .val (.int x3), .val (.int x4), .val (.int i1), .val (.int i2), .val (.int t0), .val (.int t1), .val (.int e0), .unset, .unset, .unset, .unset, .unset, .unset, .unset, .unset, .unset] [(.int ((x2.toUInt32 >>> ((8 : Int32) &&& 31).toUInt32).toInt32))])) _
      refine XS.sipush X0.here hx rfl (hb hby at_85) ?_
      show Steps pg.tables ev below (s₁.setTop (mkF mi 88 #[.val (.int x0), .val (.int x1), .val (.int x2), .val (.int x3), .val (.int x4), .val (.int i1), .val (.int i2), .val (.int t0), .val (.int t1), .val (.int e0), .unset, .unset, .unset, .unset, .unset, .unset, .unset, .unset, .unset] [(.int (255 : Int32)), (.int ((x2.toUInt32 >>> ((8 : Int32) &&& 31).toUInt32).toInt32))])) _
      refine XS.iand X0.here hx rfl (hb hby at_88) rfl ?_
      show Steps pg.tables ev below (s₁.setTop (mkF mi 89 #[.val (.int x0), .val (.int x1), .val (.int x2), .val (.int x3), .val (.int x4), .val (.int i1), .val (.int i2), .val (.int t0), .val (.int t1), .val (.int e0), .unset, .unset, .unset, .unset, .unset, .unset, .unset, .unset, .unset] [(.int (((x2.toUInt32 >>> ((8 : Int32) &&& 31).toUInt32).toInt32) &&& (255 : Int32)))])) _
      refine XS.i2c X0.here hx rfl (hb hby at_89) rfl ?_
      exact kk
    · try simp only [if_neg hm116] at kk
      show Steps pg.tables ev below (s₁.setTop (mkF mi 73 #[.val (.int x0), .val (.int x1), .val (.int x2), .val (.int x3), .val (.int x4), .val (.int i1), .val (.int i2), .val (.int t0), .val (.int t1), .val (.int e0), .unset, .unset, .unset, .unset, .unset, .unset, .unset, .unset, .unset] [(.int (x3 &&& (4 : Int32)))])) _
      refine XS.ifNo X0.here hx rfl (hb hby at_73) rfl ((if0 _ _).trans (feq hm116).1) ?_
      show Steps pg.tables ev below (s₁.setTop (mkF mi 76 #[.val (.int x0), .val (.int x1), .val (.int x2), .val (.int x3), .val (.int x4), .val (.int i1), .val (.int i2), .val (.int t0), .val (.int t1), .val (.int e0), .unset, .unset, .unset, .unset, .unset, .unset, .unset, .unset, .unset] [])) _
      refine XS.iload X0.here hx rfl (hb hby at_76) rfl ?_
      show Steps pg.tables ev below (s₁.setTop (mkF mi 78 #[.val (.int x0), .val (.int x1), .val (.int x2), .val (.int x3), .val (.int x4), .val (.int i1), .val (.int i2), .val (.int t0), .val (.int t1), .val (.int e0), .unset, .unset, .unset, .unset, .unset, .unset, .unset, .unset, .unset] [(.int t1)])) _
      refine XS.goto X0.here hx rfl (pc0 := 78) (pc' := 90) rfl (hb hby at_78) (by decide) (by decide) ?_
      exact kk)
  obtain ⟨e1, he_e1⟩ : ∃ z, z = (if (x3 &&& (4 : Int32)) = (0 : Int32) then ((((x2.toUInt32 >>> ((8 : Int32) &&& 31).toUInt32).toInt32) &&& (255 : Int32)).toUInt32.toUInt16.toUInt32.toInt32) else t1) := ⟨_, rfl⟩
  have pre118 : ∀ tt, Steps pg.tables ev below (s₁.setTop (mkF mi 90 #[.val (.int x0), .val (.int x1), .val (.int x2), .val (.int x3), .val (.int x4), .val (.int i1), .val (.int i2), .val (.int t0), .val (.int t1), .val (.int e0), .unset, .unset, .unset, .unset, .unset, .unset, .unset, .unset, .unset] [(.int e1)])) tt → Steps pg.tables ev below (s₁.setTop (entryFrame mi #[(.int x0), (.int x1), (.int x2), (.int x3), (.int x4)] maxLocals)) tt := fun tt kk => pre117 tt (by rw [← he_e1]; exact kk)
  have b_e1 : ¬ (e1 < (0 : Int32)) ∧ ¬ ((255 : Int32) < e1) := he_e1 ▸ own_ite (P := fun z => ¬ z < (0 : Int32)) (Q := fun z => ¬ (255 : Int32) < z) (own_c255 _) b_t1
  have z_e1 : ¬ (e1 < (0 : Int32)) := b_e1.1
  have y_e1 : ¬ ((255 : Int32) < e1) := b_e1.2
  obtain ⟨lt, he_lt⟩ : ∃ z, z = ((((x3.toUInt32 >>> ((4 : Int32) &&& 31).toUInt32).toInt32) &&& (255 : Int32)) % (3 : Int32)) := ⟨_, rfl⟩
  have pre119 : ∀ tt, Steps pg.tables ev below (s₁.setTop (mkF mi 101 #[.val (.int x0), .val (.int x1), .val (.int x2), .val (.int x3), .val (.int x4), .val (.int i1), .val (.int i2), .val (.int t0), .val (.int t1), .val (.int e0), .val (.int e1), .unset, .unset, .unset, .unset, .unset, .unset, .unset, .unset] [(.int ((((x3.toUInt32 >>> ((4 : Int32) &&& 31).toUInt32).toInt32) &&& (255 : Int32)) % (3 : Int32)))])) tt → Steps pg.tables ev below (s₁.setTop (entryFrame mi #[(.int x0), (.int x1), (.int x2), (.int x3), (.int x4)] maxLocals)) tt := fun tt kk => pre118 _ (by
    show Steps pg.tables ev below (s₁.setTop (mkF mi 90 #[.val (.int x0), .val (.int x1), .val (.int x2), .val (.int x3), .val (.int x4), .val (.int i1), .val (.int i2), .val (.int t0), .val (.int t1), .val (.int e0), .unset, .unset, .unset, .unset, .unset, .unset, .unset, .unset, .unset] [(.int e1)])) _
    refine XS.istore X0.here hx rfl (hb hby at_90) rfl (l' := #[.val (.int x0), .val (.int x1), .val (.int x2), .val (.int x3), .val (.int x4), .val (.int i1), .val (.int i2), .val (.int t0), .val (.int t1), .val (.int e0), .val (.int e1), .unset, .unset, .unset, .unset, .unset, .unset, .unset, .unset]) rfl ?_
    show Steps pg.tables ev below (s₁.setTop (mkF mi 92 #[.val (.int x0), .val (.int x1), .val (.int x2), .val (.int x3), .val (.int x4), .val (.int i1), .val (.int i2), .val (.int t0), .val (.int t1), .val (.int e0), .val (.int e1), .unset, .unset, .unset, .unset, .unset, .unset, .unset, .unset] [])) _
    refine XS.iloadN X0.here hx rfl (hb hby at_92) rfl ?_
    show Steps pg.tables ev below (s₁.setTop (mkF mi 93 #[.val (.int x0), .val (.int x1), .val (.int x2), .val (.int x3), .val (.int x4), .val (.int i1), .val (.int i2), .val (.int t0), .val (.int t1), .val (.int e0), .val (.int e1), .unset, .unset, .unset, .unset, .unset, .unset, .unset, .unset] [(.int x3)])) _
    refine XS.iconst X0.here hx rfl (hb hby at_93) ?_
    show Steps pg.tables ev below (s₁.setTop (mkF mi 94 #[.val (.int x0), .val (.int x1), .val (.int x2), .val (.int x3), .val (.int x4), .val (.int i1), .val (.int i2), .val (.int t0), .val (.int t1), .val (.int e0), .val (.int e1), .unset, .unset, .unset, .unset, .unset, .unset, .unset, .unset] [(.int (4 : Int32)), (.int x3)])) _
    refine XS.iushr X0.here hx rfl (hb hby at_94) rfl ?_
    show Steps pg.tables ev below (s₁.setTop (mkF mi 95 #[.val (.int x0), .val (.int x1), .val (.int x2), .val (.int x3), .val (.int x4), .val (.int i1), .val (.int i2), .val (.int t0), .val (.int t1), .val (.int e0), .val (.int e1), .unset, .unset, .unset, .unset, .unset, .unset, .unset, .unset] [(.int ((x3.toUInt32 >>> ((4 : Int32) &&& 31).toUInt32).toInt32))])) _
    refine XS.sipush X0.here hx rfl (hb hby at_95) ?_
    show Steps pg.tables ev below (s₁.setTop (mkF mi 98 #[.val (.int x0), .val (.int x1), .val (.int x2), .val (.int x3), .val (.int x4), .val (.int i1), .val (.int i2), .val (.int t0), .val (.int t1), .val (.int e0), .val (.int e1), .unset, .unset, .unset, .unset, .unset, .unset, .unset, .unset] [(.int (255 : Int32)), (.int ((x3.toUInt32 >>> ((4 : Int32) &&& 31).toUInt32).toInt32))])) _
    refine XS.iand X0.here hx rfl (hb hby at_98) rfl ?_
    show Steps pg.tables ev below (s₁.setTop (mkF mi 99 #[.val (.int x0), .val (.int x1), .val (.int x2), .val (.int x3), .val (.int x4), .val (.int i1), .val (.int i2), .val (.int t0), .val (.int t1), .val (.int e0), .val (.int e1), .unset, .unset, .unset, .unset, .unset, .unset, .unset, .unset] [(.int (((x3.toUInt32 >>> ((4 : Int32) &&& 31).toUInt32).toInt32) &&& (255 : Int32)))])) _
    refine XS.iconst X0.here hx rfl (hb hby at_99) ?_
    show Steps pg.tables ev below (s₁.setTop (mkF mi 100 #[.val (.int x0), .val (.int x1), .val (.int x2), .val (.int x3), .val (.int x4), .val (.int i1), .val (.int i2), .val (.int t0), .val (.int t1), .val (.int e0), .val (.int e1), .unset, .unset, .unset, .unset, .unset, .unset, .unset, .unset] [(.int (3 : Int32)), (.int (((x3.toUInt32 >>> ((4 : Int32) &&& 31).toUInt32).toInt32) &&& (255 : Int32)))])) _
    refine iremM X0 hx rfl (hb hby at_100) rfl (by decide) ?_
    exact kk)
  have pre120 : ∀ tt, Steps pg.tables ev below (s₁.setTop (mkF mi 101 #[.val (.int x0), .val (.int x1), .val (.int x2), .val (.int x3), .val (.int x4), .val (.int i1), .val (.int i2), .val (.int t0), .val (.int t1), .val (.int e0), .val (.int e1), .unset, .unset, .unset, .unset, .unset, .unset, .unset, .unset] [(.int lt)])) tt → Steps pg.tables ev below (s₁.setTop (entryFrame mi #[(.int x0), (.int x1), (.int x2), (.int x3), (.int x4)] maxLocals)) tt := fun tt kk => pre119 tt (by rw [← he_lt]; exact kk)
  have b_lt : ¬ (lt < (0 : Int32)) ∧ lt < (3 : Int32) := he_lt ▸ own_m3 _
  have pre121 : ∀ tt, Steps pg.tables ev below (s₁.setTop (mkF mi 107 #[.val (.int x0), .val (.int x1), .val (.int x2), .val (.int x3), .val (.int x4), .val (.int i1), .val (.int i2), .val (.int t0), .val (.int t1), .val (.int e0), .val (.int e1), .val (.int lt), .unset, .unset, .unset, .unset, .unset, .unset, .unset] [(.int (x3 &&& (8 : Int32)))])) tt → Steps pg.tables ev below (s₁.setTop (entryFrame mi #[(.int x0), (.int x1), (.int x2), (.int x3), (.int x4)] maxLocals)) tt := fun tt kk => pre120 _ (by
    show Steps pg.tables ev below (s₁.setTop (mkF mi 101 #[.val (.int x0), .val (.int x1), .val (.int x2), .val (.int x3), .val (.int x4), .val (.int i1), .val (.int i2), .val (.int t0), .val (.int t1), .val (.int e0), .val (.int e1), .unset, .unset, .unset, .unset, .unset, .unset, .unset, .unset] [(.int lt)])) _
    refine XS.istore X0.here hx rfl (hb hby at_101) rfl (l' := #[.val (.int x0), .val (.int x1), .val (.int x2), .val (.int x3), .val (.int x4), .val (.int i1), .val (.int i2), .val (.int t0), .val (.int t1), .val (.int e0), .val (.int e1), .val (.int lt), .unset, .unset, .unset, .unset, .unset, .unset, .unset]) rfl ?_
    show Steps pg.tables ev below (s₁.setTop (mkF mi 103 #[.val (.int x0), .val (.int x1), .val (.int x2), .val (.int x3), .val (.int x4), .val (.int i1), .val (.int i2), .val (.int t0), .val (.int t1), .val (.int e0), .val (.int e1), .val (.int lt), .unset, .unset, .unset, .unset, .unset, .unset, .unset] [])) _
    refine XS.iloadN X0.here hx rfl (hb hby at_103) rfl ?_
    show Steps pg.tables ev below (s₁.setTop (mkF mi 104 #[.val (.int x0), .val (.int x1), .val (.int x2), .val (.int x3), .val (.int x4), .val (.int i1), .val (.int i2), .val (.int t0), .val (.int t1), .val (.int e0), .val (.int e1), .val (.int lt), .unset, .unset, .unset, .unset, .unset, .unset, .unset] [(.int x3)])) _
    refine XS.bipush X0.here hx rfl (hb hby at_104) ?_
    show Steps pg.tables ev below (s₁.setTop (mkF mi 106 #[.val (.int x0), .val (.int x1), .val (.int x2), .val (.int x3), .val (.int x4), .val (.int i1), .val (.int i2), .val (.int t0), .val (.int t1), .val (.int e0), .val (.int e1), .val (.int lt), .unset, .unset, .unset, .unset, .unset, .unset, .unset] [(.int (8 : Int32)), (.int x3)])) _
    refine XS.iand X0.here hx rfl (hb hby at_106) rfl ?_
    exact kk)
  have pre123 : ∀ tt, Steps pg.tables ev below (s₁.setTop (mkF mi 125 #[.val (.int x0), .val (.int x1), .val (.int x2), .val (.int x3), .val (.int x4), .val (.int i1), .val (.int i2), .val (.int t0), .val (.int t1), .val (.int e0), .val (.int e1), .val (.int lt), .unset, .unset, .unset, .unset, .unset, .unset, .unset] [(.int (if (x3 &&& (8 : Int32)) = (0 : Int32) then ((((x3.toUInt32 >>> ((12 : Int32) &&& 31).toUInt32).toInt32) &&& (255 : Int32)) % (3 : Int32)) else lt))])) tt → Steps pg.tables ev below (s₁.setTop (entryFrame mi #[(.int x0), (.int x1), (.int x2), (.int x3), (.int x4)] maxLocals)) tt := fun tt kk => pre121 _ (by
    by_cases hm122 : (x3 &&& (8 : Int32)) = (0 : Int32)
    · try simp only [if_pos hm122] at kk
      show Steps pg.tables ev below (s₁.setTop (mkF mi 107 #[.val (.int x0), .val (.int x1), .val (.int x2), .val (.int x3), .val (.int x4), .val (.int i1), .val (.int i2), .val (.int t0), .val (.int t1), .val (.int e0), .val (.int e1), .val (.int lt), .unset, .unset, .unset, .unset, .unset, .unset, .unset] [(.int (x3 &&& (8 : Int32)))])) _
      refine XS.ifYes X0.here hx rfl (pc0 := 107) (pc' := 115) rfl (hb hby at_107) rfl ((if0 _ _).trans (teq hm122).1) (by decide) (by decide) ?_
      show Steps pg.tables ev below (s₁.setTop (mkF mi 115 #[.val (.int x0), .val (.int x1), .val (.int x2), .val (.int x3), .val (.int x4), .val (.int i1), .val (.int i2), .val (.int t0), .val (.int t1), .val (.int e0), .val (.int e1), .val (.int lt), .unset, .unset, .unset, .unset, .unset, .unset, .unset] [])) _
      refine XS.iloadN X0.here hx rfl (hb hby at_115) rfl ?_
      show Steps pg.tables ev below (s₁.setTop (mkF mi 116 #[.val (.int x0), .val (.int x1), .val (.int x2), .val (.int x3), .val (.int x4), .val (.int i1), .val (.int i2), .val (.int t0), .val (.int t1), .val (.int e0), .val (.int e1), .val (.int lt), .unset, .unset, .unset, .unset, .unset, .unset, .unset] [(.int x3)])) _
      refine XS.bipush X0.here hx rfl (hb hby at_116) ?_
      show Steps pg.tables ev below (s₁.setTop (mkF mi 118 #[.val (.int x0), .val (.int x1), .val (.int x2), .val (.int x3), .val (.int x4), .val (.int i1), .val (.int i2), .val (.int t0), .val (.int t1), .val (.int e0), .val (.int e1), .val (.int lt), .unset, .unset, .unset, .unset, .unset, .unset, .unset] [(.int (12 : Int32)), (.int x3)])) _
      refine XS.iushr X0.here hx rfl (hb hby at_118) rfl ?_
      show Steps pg.tables ev below (s₁.setTop (mkF mi 119 #[.val (.int x0), .val (.int x1), .val (.int x2), .val (.int x3), .val (.int x4), .val (.int i1), .val (.int i2), .val (.int t0), .val (.int t1), .val (.int e0), .val (.int e1), .val (.int lt), .unset, .unset, .unset, .unset, .unset, .unset, .unset] [(.int ((x3.toUInt32 >>> ((12 : Int32) &&& 31).toUInt32).toInt32))])) _
      refine XS.sipush X0.here hx rfl (hb hby at_119) ?_
      show Steps pg.tables ev below (s₁.setTop (mkF mi 122 #[.val (.int x0), .val (.int x1), .val (.int x2), .val (.int x3), .val (.int x4), .val (.int i1), .val (.int i2), .val (.int t0), .val (.int t1), .val (.int e0), .val (.int e1), .val (.int lt), .unset, .unset, .unset, .unset, .unset, .unset, .unset] [(.int (255 : Int32)), (.int ((x3.toUInt32 >>> ((12 : Int32) &&& 31).toUInt32).toInt32))])) _
      refine XS.iand X0.here hx rfl (hb hby at_122) rfl ?_
      show Steps pg.tables ev below (s₁.setTop (mkF mi 123 #[.val (.int x0), .val (.int x1), .val (.int x2), .val (.int x3), .val (.int x4), .val (.int i1), .val (.int i2), .val (.int t0), .val (.int t1), .val (.int e0), .val (.int e1), .val (.int lt), .unset, .unset, .unset, .unset, .unset, .unset, .unset] [(.int (((x3.toUInt32 >>> ((12 : Int32) &&& 31).toUInt32).toInt32) &&& (255 : Int32)))])) _
      refine XS.iconst X0.here hx rfl (hb hby at_123) ?_
      show Steps pg.tables ev below (s₁.setTop (mkF mi 124 #[.val (.int x0), .val (.int x1), .val (.int x2), .val (.int x3), .val (.int x4), .val (.int i1), .val (.int i2), .val (.int t0), .val (.int t1), .val (.int e0), .val (.int e1), .val (.int lt), .unset, .unset, .unset, .unset, .unset, .unset, .unset] [(.int (3 : Int32)), (.int (((x3.toUInt32 >>> ((12 : Int32) &&& 31).toUInt32).toInt32) &&& (255 : Int32)))])) _
      refine iremM X0 hx rfl (hb hby at_124) rfl (by decide) ?_
      exact kk
    · try simp only [if_neg hm122] at kk
      show Steps pg.tables ev below (s₁.setTop (mkF mi 107 #[.val (.int x0), .val (.int x1), .val (.int x2), .val (.int x3), .val (.int x4), .val (.int i1), .val (.int i2), .val (.int t0), .val (.int t1), .val (.int e0), .val (.int e1), .val (.int lt), .unset, .unset, .unset, .unset, .unset, .unset, .unset] [(.int (x3 &&& (8 : Int32)))])) _
      refine XS.ifNo X0.here hx rfl (hb hby at_107) rfl ((if0 _ _).trans (feq hm122).1) ?_
      show Steps pg.tables ev below (s₁.setTop (mkF mi 110 #[.val (.int x0), .val (.int x1), .val (.int x2), .val (.int x3), .val (.int x4), .val (.int i1), .val (.int i2), .val (.int t0), .val (.int t1), .val (.int e0), .val (.int e1), .val (.int lt), .unset, .unset, .unset, .unset, .unset, .unset, .unset] [])) _
      refine XS.iload X0.here hx rfl (hb hby at_110) rfl ?_
      show Steps pg.tables ev below (s₁.setTop (mkF mi 112 #[.val (.int x0), .val (.int x1), .val (.int x2), .val (.int x3), .val (.int x4), .val (.int i1), .val (.int i2), .val (.int t0), .val (.int t1), .val (.int e0), .val (.int e1), .val (.int lt), .unset, .unset, .unset, .unset, .unset, .unset, .unset] [(.int lt)])) _
      refine XS.goto X0.here hx rfl (pc0 := 112) (pc' := 125) rfl (hb hby at_112) (by decide) (by decide) ?_
      exact kk)
  obtain ⟨le, he_le⟩ : ∃ z, z = (if (x3 &&& (8 : Int32)) = (0 : Int32) then ((((x3.toUInt32 >>> ((12 : Int32) &&& 31).toUInt32).toInt32) &&& (255 : Int32)) % (3 : Int32)) else lt) := ⟨_, rfl⟩
  have pre124 : ∀ tt, Steps pg.tables ev below (s₁.setTop (mkF mi 125 #[.val (.int x0), .val (.int x1), .val (.int x2), .val (.int x3), .val (.int x4), .val (.int i1), .val (.int i2), .val (.int t0), .val (.int t1), .val (.int e0), .val (.int e1), .val (.int lt), .unset, .unset, .unset, .unset, .unset, .unset, .unset] [(.int le)])) tt → Steps pg.tables ev below (s₁.setTop (entryFrame mi #[(.int x0), (.int x1), (.int x2), (.int x3), (.int x4)] maxLocals)) tt := fun tt kk => pre123 tt (by rw [← he_le]; exact kk)
  have b_le : ¬ (le < (0 : Int32)) ∧ le < (3 : Int32) := he_le ▸ own_ite (P := fun z => ¬ z < (0 : Int32)) (Q := fun z => z < (3 : Int32)) (own_m3 _) b_lt
  obtain ⟨v125, _, ⟨T125, L125, k125, n125⟩, -, X125, ⟨Lc125, hQ125, l125, y125, z125⟩, st125⟩ := Jvm.LawKit.callS X0 hx (y := mn0) hown (mvT hZ (wd1 hw)) (mvT hZ (wd2 hw)) (mvT hZ (wd3 hw)) (mvT hZ (wd4 hw)) (by decide) (backOf (W := 0) (rm_kof la Z a0 hw [] i1 K hE n0 O D0_ D1_ D2_ D3_ D4_ D5_ D6_ D7_ D8_ D9_ D10_ D11_ D12_ D13_ D14_ D15_ D16_ D17_ (z_i1 : ¬ (i1 < (0 : Int32))) (y_i1 : i1 < (18 : Int32))) hZ (wd4 hw) (wd3 hw) (by decide) (by decide)) (g := (mkF mi 129 #[.val (.int x0), .val (.int x1), .val (.int x2), .val (.int x3), .val (.int x4), .val (.int i1), .val (.int i2), .val (.int t0), .val (.int t1), .val (.int e0), .val (.int e1), .val (.int lt), .val (.int le), .unset, .unset, .unset, .unset, .unset, .unset] [(.int i1)])) rfl (by rw [hml]; rfl) (argsL := [(.int i1)]) (rest := []) (lenOf pd_6 rfl) rfl (by show 2 * 0 + _ ≤ _; exact Nat.le_of_eq rfl) (hb hby at_129) (fun _ _ => ⟨rfl, eE, (by decide : 0 + 0 ≤ _), (by decide : 0 + 0 ≤ _)⟩)
  dsimp only [Pt.U, Pt.locs, Pt.cells, Pt.slots] at X125 l125 y125 z125 st125 hQ125
  subst l125 y125 z125
  obtain ⟨rfl, Nq125, ek125⟩ := hQ125
  have N125 := Fr.app N0 Nq125
  obtain ⟨v126, _, ⟨T126, L126, k126, n126⟩, -, X126, ⟨Lc126, hQ126, l126, y126, z126⟩, st126⟩ := Jvm.LawKit.callS X125 hx (y := mn0) hown (mvT hZ (wd1 hw)) (mvT hZ (wd2 hw)) (mvT hZ (wd3 hw)) (mvT hZ (wd4 hw)) (by decide) (backOf (W := 0) (rm_kof la Z a0 hw [] i2 K hE n0 O D0_ D1_ D2_ D3_ D4_ D5_ D6_ D7_ D8_ D9_ D10_ D11_ D12_ D13_ D14_ D15_ D16_ D17_ (z_i2 : ¬ (i2 < (0 : Int32))) (y_i2 : i2 < (18 : Int32))) hZ (wd4 hw) (wd3 hw) (by decide) (by decide)) (g := (mkF mi 136 #[.val (.int x0), .val (.int x1), .val (.int x2), .val (.int x3), .val (.int x4), .val (.int i1), .val (.int i2), .val (.int t0), .val (.int t1), .val (.int e0), .val (.int e1), .val (.int lt), .val (.int le), .val (.ref (K i1.toNatClampNeg)), .unset, .unset, .unset, .unset, .unset] [(.int i2)])) rfl (by rw [hml]; rfl) (argsL := [(.int i2)]) (rest := []) (lenOf pd_6 rfl) rfl (by show 2 * 0 + _ ≤ _; exact Nat.le_of_eq rfl) (hb hby at_136) (fun _ _ => ⟨rfl, ek125, (by decide : 0 + 0 ≤ _), (by decide : 0 + 0 ≤ _)⟩)
  dsimp only [Pt.U, Pt.locs, Pt.cells, Pt.slots] at X126 l126 y126 z126 st126 hQ126
  subst l126 y126 z126
  obtain ⟨rfl, Nq126, ek126⟩ := hQ126
  have N126 := Fr.app N125 Nq126
  have pre128 : ∀ tt, Steps pg.tables ev below (T126.setTop (mkF mi 147 #[.val (.int x0), .val (.int x1), .val (.int x2), .val (.int x3), .val (.int x4), .val (.int i1), .val (.int i2), .val (.int t0), .val (.int t1), .val (.int e0), .val (.int e1), .val (.int lt), .val (.int le), .val (.ref (K i1.toNatClampNeg)), .val (.ref (K i2.toNatClampNeg)), .unset, .unset, .unset, .unset] [(.int t1), (.int t0), (.int lt)])) tt → Steps pg.tables ev below (s₁.setTop (entryFrame mi #[(.int x0), (.int x1), (.int x2), (.int x3), (.int x4)] maxLocals)) tt := fun tt kk => pre124 _ (by
    show Steps pg.tables ev below (s₁.setTop (mkF mi 125 #[.val (.int x0), .val (.int x1), .val (.int x2), .val (.int x3), .val (.int x4), .val (.int i1), .val (.int i2), .val (.int t0), .val (.int t1), .val (.int e0), .val (.int e1), .val (.int lt), .unset, .unset, .unset, .unset, .unset, .unset, .unset] [(.int le)])) _
    refine XS.istore X0.here hx rfl (hb hby at_125) rfl (l' := #[.val (.int x0), .val (.int x1), .val (.int x2), .val (.int x3), .val (.int x4), .val (.int i1), .val (.int i2), .val (.int t0), .val (.int t1), .val (.int e0), .val (.int e1), .val (.int lt), .val (.int le), .unset, .unset, .unset, .unset, .unset, .unset]) rfl ?_
    show Steps pg.tables ev below (s₁.setTop (mkF mi 127 #[.val (.int x0), .val (.int x1), .val (.int x2), .val (.int x3), .val (.int x4), .val (.int i1), .val (.int i2), .val (.int t0), .val (.int t1), .val (.int e0), .val (.int e1), .val (.int lt), .val (.int le), .unset, .unset, .unset, .unset, .unset, .unset] [])) _
    refine XS.iload X0.here hx rfl (hb hby at_127) rfl ?_
    show Steps pg.tables ev below (s₁.setTop (mkF mi 129 #[.val (.int x0), .val (.int x1), .val (.int x2), .val (.int x3), .val (.int x4), .val (.int i1), .val (.int i2), .val (.int t0), .val (.int t1), .val (.int e0), .val (.int e1), .val (.int lt), .val (.int le), .unset, .unset, .unset, .unset, .unset, .unset] [(.int i1)])) _
    refine st125 _ ?_
    show Steps pg.tables ev below (T125.setTop (mkF mi 132 #[.val (.int x0), .val (.int x1), .val (.int x2), .val (.int x3), .val (.int x4), .val (.int i1), .val (.int i2), .val (.int t0), .val (.int t1), .val (.int e0), .val (.int e1), .val (.int lt), .val (.int le), .unset, .unset, .unset, .unset, .unset, .unset] [(.ref (K i1.toNatClampNeg))])) _
    refine XS.astore X125.here hx rfl (hb hby at_132) rfl rfl (l' := #[.val (.int x0), .val (.int x1), .val (.int x2), .val (.int x3), .val (.int x4), .val (.int i1), .val (.int i2), .val (.int t0), .val (.int t1), .val (.int e0), .val (.int e1), .val (.int lt), .val (.int le), .val (.ref (K i1.toNatClampNeg)), .unset, .unset, .unset, .unset, .unset]) rfl ?_
    show Steps pg.tables ev below (T125.setTop (mkF mi 134 #[.val (.int x0), .val (.int x1), .val (.int x2), .val (.int x3), .val (.int x4), .val (.int i1), .val (.int i2), .val (.int t0), .val (.int t1), .val (.int e0), .val (.int e1), .val (.int lt), .val (.int le), .val (.ref (K i1.toNatClampNeg)), .unset, .unset, .unset, .unset, .unset] [])) _
    refine XS.iload X125.here hx rfl (hb hby at_134) rfl ?_
    show Steps pg.tables ev below (T125.setTop (mkF mi 136 #[.val (.int x0), .val (.int x1), .val (.int x2), .val (.int x3), .val (.int x4), .val (.int i1), .val (.int i2), .val (.int t0), .val (.int t1), .val (.int e0), .val (.int e1), .val (.int lt), .val (.int le), .val (.ref (K i1.toNatClampNeg)), .unset, .unset, .unset, .unset, .unset] [(.int i2)])) _
    refine st126 _ ?_
    show Steps pg.tables ev below (T126.setTop (mkF mi 139 #[.val (.int x0), .val (.int x1), .val (.int x2), .val (.int x3), .val (.int x4), .val (.int i1), .val (.int i2), .val (.int t0), .val (.int t1), .val (.int e0), .val (.int e1), .val (.int lt), .val (.int le), .val (.ref (K i1.toNatClampNeg)), .unset, .unset, .unset, .unset, .unset] [(.ref (K i2.toNatClampNeg))])) _
    refine XS.astore X126.here hx rfl (hb hby at_139) rfl rfl (l' := #[.val (.int x0), .val (.int x1), .val (.int x2), .val (.int x3), .val (.int x4), .val (.int i1), .val (.int i2), .val (.int t0), .val (.int t1), .val (.int e0), .val (.int e1), .val (.int lt), .val (.int le), .val (.ref (K i1.toNatClampNeg)), .val (.ref (K i2.toNatClampNeg)), .unset, .unset, .unset, .unset]) rfl ?_
    show Steps pg.tables ev below (T126.setTop (mkF mi 141 #[.val (.int x0), .val (.int x1), .val (.int x2), .val (.int x3), .val (.int x4), .val (.int i1), .val (.int i2), .val (.int t0), .val (.int t1), .val (.int e0), .val (.int e1), .val (.int lt), .val (.int le), .val (.ref (K i1.toNatClampNeg)), .val (.ref (K i2.toNatClampNeg)), .unset, .unset, .unset, .unset] [])) _
    refine XS.iload X126.here hx rfl (hb hby at_141) rfl ?_
    show Steps pg.tables ev below (T126.setTop (mkF mi 143 #[.val (.int x0), .val (.int x1), .val (.int x2), .val (.int x3), .val (.int x4), .val (.int i1), .val (.int i2), .val (.int t0), .val (.int t1), .val (.int e0), .val (.int e1), .val (.int lt), .val (.int le), .val (.ref (K i1.toNatClampNeg)), .val (.ref (K i2.toNatClampNeg)), .unset, .unset, .unset, .unset] [(.int lt)])) _
    refine XS.iload X126.here hx rfl (hb hby at_143) rfl ?_
    show Steps pg.tables ev below (T126.setTop (mkF mi 145 #[.val (.int x0), .val (.int x1), .val (.int x2), .val (.int x3), .val (.int x4), .val (.int i1), .val (.int i2), .val (.int t0), .val (.int t1), .val (.int e0), .val (.int e1), .val (.int lt), .val (.int le), .val (.ref (K i1.toNatClampNeg)), .val (.ref (K i2.toNatClampNeg)), .unset, .unset, .unset, .unset] [(.int t0), (.int lt)])) _
    refine XS.iload X126.here hx rfl (hb hby at_145) rfl ?_
    exact kk)
  obtain ⟨v127, _, ⟨T127, L127, k127, n127⟩, -, X127, s127, gr127, ⟨Lc127, hQ127, l127, y127, z127, c127⟩, st127⟩ := callSS X126 hx (y := mn6) hown (mvT hZ (wd8 hw)) (mvT hZ (wd9 hw)) (mvT hZ (wd3 hw)) (mvT hZ (wd10 hw)) (by decide) (backOfSH (W := 0) (rm_strc la Z a0 hw [] lt t0 t1 zc hE n0 O D18_ (y_t0 : ¬ ((255 : Int32) < t0)) (z_t0 : ¬ (t0 < (0 : Int32))) (y_t1 : ¬ ((255 : Int32) < t1)) (z_t1 : ¬ (t1 < (0 : Int32))) (hzc : ¬ (zc = (0 : Int32)))) hZ (wd10 hw) (wd3 hw) (by decide) (by decide) hEL C0.1) (g := (mkF mi 147 #[.val (.int x0), .val (.int x1), .val (.int x2), .val (.int x3), .val (.int x4), .val (.int i1), .val (.int i2), .val (.int t0), .val (.int t1), .val (.int e0), .val (.int e1), .val (.int lt), .val (.int le), .val (.ref (K i1.toNatClampNeg)), .val (.ref (K i2.toNatClampNeg)), .unset, .unset, .unset, .unset] [(.int t1), (.int t0), (.int lt)])) rfl (by rw [hml]; rfl) (argsL := [(.int lt), (.int t0), (.int t1)]) (rest := []) (lenOf pd_7 rfl) rfl (by show 2 * 0 + _ ≤ _; exact Nat.le_of_eq rfl) (hb hby at_147) (fun _ _ => ⟨rfl, ek126, (by decide : 0 + 6 ≤ _), (by decide : 0 + 12 ≤ _)⟩)
  dsimp only [Pt.U, Pt.locs, Pt.cells, Pt.slots] at X127 s127 gr127 l127 y127 z127 c127 st127 hQ127
  subst l127 y127 z127
  obtain ⟨X127, hS, hZ, hown⟩ := rebS hS (show _ ≤ T126.heap.size by rw [ek126]; exact hk) X127 s127 gr127 hZ hown
  have hk : T127.heap.size ≤ T127.heap.size := Nat.le_refl _
  obtain ⟨x_127, t_127, rfl, Nq127, Kq127, fr_x_127, r127_0⟩ := hQ127
  have N127 := Fr.app N126 Nq127
  have C129 := CHr.trans C0 c127
  have O130 : Old Z n0 T127.heap := (O.keep Kq127 all0)
  have pre132 : ∀ tt, Steps pg.tables ev below (T127.setTop (mkF mi 158 #[.val (.int x0), .val (.int x1), .val (.int x2), .val (.int x3), .val (.int x4), .val (.int i1), .val (.int i2), .val (.int t0), .val (.int t1), .val (.int e0), .val (.int e1), .val (.int lt), .val (.int le), .val (.ref (K i1.toNatClampNeg)), .val (.ref (K i2.toNatClampNeg)), .val (.ref x_127), .unset, .unset, .unset] [(.int e1), (.int e0), (.int le)])) tt → Steps pg.tables ev below (s₁.setTop (entryFrame mi #[(.int x0), (.int x1), (.int x2), (.int x3), (.int x4)] maxLocals)) tt := fun tt kk => pre128 _ (by
    show Steps pg.tables ev below (T126.setTop (mkF mi 147 #[.val (.int x0), .val (.int x1), .val (.int x2), .val (.int x3), .val (.int x4), .val (.int i1), .val (.int i2), .val (.int t0), .val (.int t1), .val (.int e0), .val (.int e1), .val (.int lt), .val (.int le), .val (.ref (K i1.toNatClampNeg)), .val (.ref (K i2.toNatClampNeg)), .unset, .unset, .unset, .unset] [(.int t1), (.int t0), (.int lt)])) _
    refine st127.trans ?_
    show Steps pg.tables ev below (T127.setTop (mkF mi 150 #[.val (.int x0), .val (.int x1), .val (.int x2), .val (.int x3), .val (.int x4), .val (.int i1), .val (.int i2), .val (.int t0), .val (.int t1), .val (.int e0), .val (.int e1), .val (.int lt), .val (.int le), .val (.ref (K i1.toNatClampNeg)), .val (.ref (K i2.toNatClampNeg)), .unset, .unset, .unset, .unset] [(.ref x_127)])) _
    refine XS.astore X127.here hx rfl (hb hby at_150) rfl rfl (l' := #[.val (.int x0), .val (.int x1), .val (.int x2), .val (.int x3), .val (.int x4), .val (.int i1), .val (.int i2), .val (.int t0), .val (.int t1), .val (.int e0), .val (.int e1), .val (.int lt), .val (.int le), .val (.ref (K i1.toNatClampNeg)), .val (.ref (K i2.toNatClampNeg)), .val (.ref x_127), .unset, .unset, .unset]) rfl ?_
    show Steps pg.tables ev below (T127.setTop (mkF mi 152 #[.val (.int x0), .val (.int x1), .val (.int x2), .val (.int x3), .val (.int x4), .val (.int i1), .val (.int i2), .val (.int t0), .val (.int t1), .val (.int e0), .val (.int e1), .val (.int lt), .val (.int le), .val (.ref (K i1.toNatClampNeg)), .val (.ref (K i2.toNatClampNeg)), .val (.ref x_127), .unset, .unset, .unset] [])) _
    refine XS.iload X127.here hx rfl (hb hby at_152) rfl ?_
    show Steps pg.tables ev below (T127.setTop (mkF mi 154 #[.val (.int x0), .val (.int x1), .val (.int x2), .val (.int x3), .val (.int x4), .val (.int i1), .val (.int i2), .val (.int t0), .val (.int t1), .val (.int e0), .val (.int e1), .val (.int lt), .val (.int le), .val (.ref (K i1.toNatClampNeg)), .val (.ref (K i2.toNatClampNeg)), .val (.ref x_127), .unset, .unset, .unset] [(.int le)])) _
    refine XS.iload X127.here hx rfl (hb hby at_154) rfl ?_
    show Steps pg.tables ev below (T127.setTop (mkF mi 156 #[.val (.int x0), .val (.int x1), .val (.int x2), .val (.int x3), .val (.int x4), .val (.int i1), .val (.int i2), .val (.int t0), .val (.int t1), .val (.int e0), .val (.int e1), .val (.int lt), .val (.int le), .val (.ref (K i1.toNatClampNeg)), .val (.ref (K i2.toNatClampNeg)), .val (.ref x_127), .unset, .unset, .unset] [(.int e0), (.int le)])) _
    refine XS.iload X127.here hx rfl (hb hby at_156) rfl ?_
    exact kk)
  obtain ⟨v131, _, ⟨T131, L131, k131, n131⟩, -, X131, s131, gr131, ⟨Lc131, hQ131, l131, y131, z131, c131⟩, st131⟩ := callSS X127 hx (y := mn6) hown (mvT hZ (wd8 hw)) (mvT hZ (wd9 hw)) (mvT hZ (wd3 hw)) (mvT hZ (wd10 hw)) (by decide) (backOfSH (W := 0) (rm_strc la Z a0 hw [] le e0 e1 zc T127.heap n0 O130 D18_ (y_e0 : ¬ ((255 : Int32) < e0)) (z_e0 : ¬ (e0 < (0 : Int32))) (y_e1 : ¬ ((255 : Int32) < e1)) (z_e1 : ¬ (e1 < (0 : Int32))) (hzc : ¬ (zc = (0 : Int32)))) hZ (wd10 hw) (wd3 hw) (by decide) (by decide) hEL C129.1) (g := (mkF mi 158 #[.val (.int x0), .val (.int x1), .val (.int x2), .val (.int x3), .val (.int x4), .val (.int i1), .val (.int i2), .val (.int t0), .val (.int t1), .val (.int e0), .val (.int e1), .val (.int lt), .val (.int le), .val (.ref (K i1.toNatClampNeg)), .val (.ref (K i2.toNatClampNeg)), .val (.ref x_127), .unset, .unset, .unset] [(.int e1), (.int e0), (.int le)])) rfl (by rw [hml]; rfl) (argsL := [(.int le), (.int e0), (.int e1)]) (rest := []) (lenOf pd_7 rfl) rfl (by show 2 * 0 + _ ≤ _; exact Nat.le_of_eq rfl) (hb hby at_158) (fun _ _ => ⟨rfl, rfl, (by decide : 6 + 6 ≤ _), (by decide : 12 + 12 ≤ _)⟩)
  dsimp only [Pt.U, Pt.locs, Pt.cells, Pt.slots] at X131 s131 gr131 l131 y131 z131 c131 st131 hQ131
  subst l131 y131 z131
  obtain ⟨X131, hS, hZ, hown⟩ := rebS hS (show _ ≤ T127.heap.size from hk) X131 s131 gr131 hZ hown
  have hk : T131.heap.size ≤ T131.heap.size := Nat.le_refl _
  obtain ⟨x_131, t_131, rfl, Nq131, Kq131, fr_x_131, r131_0⟩ := hQ131
  have N131 := Fr.app N127 Nq131
  have C133 := CHr.trans C129 c131
  obtain ⟨T134, h134, X134, e134, E134, A134, D134, -, st134⟩ := newO X131 hx hZ hown (wd33 hw) (wd34 hw) (wd35 hw) rfl (g := (mkF mi 163 #[.val (.int x0), .val (.int x1), .val (.int x2), .val (.int x3), .val (.int x4), .val (.int i1), .val (.int i2), .val (.int t0), .val (.int t1), .val (.int e0), .val (.int e1), .val (.int lt), .val (.int le), .val (.ref (K i1.toNatClampNeg)), .val (.ref (K i2.toNatClampNeg)), .val (.ref x_127), .val (.ref x_131), .unset, .unset] [])) rfl (hb hby at_163) (by decide) (by decide)
  obtain ⟨b134, q134⟩ : ∃ z, z = T131.heap.size := ⟨_, rfl⟩
  rw [← q134] at A134 D134 st134
  have c135 := CHr.ext E134 C133.1
  have C136 := CHr.trans C133 c135
  have f137 : Fld Z h134 b134 "com/example/endless_runs/endlessruns/hoa/HoaLexer$Token" "kind" "Lcom/example/endless_runs/endlessruns/hoa/HoaLexer$Kind;" .null := D134 (Or.inr (wd41 hw)) (ty := (.object "com/example/endless_runs/endlessruns/hoa/HoaLexer$Kind")) (by decide)
  have f138 : Fld Z h134 b134 "com/example/endless_runs/endlessruns/hoa/HoaLexer$Token" "text" "Ljava/lang/String;" .null := D134 (Or.inr (wd43 hw)) (ty := (.object "java/lang/String")) (by decide)
  have f139 : Fld Z h134 b134 "com/example/endless_runs/endlessruns/hoa/HoaLexer$Token" "value" "I" (.int (0 : Int32)) := D134 (Or.inr (wd45 hw)) (ty := .int) (by decide)
  have f140 : Fld Z h134 b134 "com/example/endless_runs/endlessruns/hoa/HoaLexer$Token" "automaton" "I" (.int (0 : Int32)) := D134 (Or.inr (wd47 hw)) (ty := .int) (by decide)
  have f141 : Fld Z h134 b134 "com/example/endless_runs/endlessruns/hoa/HoaLexer$Token" "line" "I" (.int (0 : Int32)) := D134 (Or.inr (wd49 hw)) (ty := .int) (by decide)
  have O142 : Old Z n0 h134 := ((O130.keep Kq131 all0).ext E134)
  have O143 : Old Z n0 T131.heap := (O130.keep Kq131 all0)
  have g_b134 : n0 ≤ b134 := Nat.le_trans (Nat.le_trans (Nat.le_of_eq O143.1.symm) O143.2.1) (Nat.le_of_eq q134.symm)
  obtain ⟨v144, _, ⟨T144, L144, k144, n144⟩, -, X144, ⟨Lc144, hQ144, l144, y144, z144⟩, st144⟩ := X134.specialBack hx (y := mn7) rfl hown (mvT hZ (wd36 hw)) (mvT hZ (wd37 hw)) (mvT hZ (wd38 hw)) (by decide) (backOf (W := 1) (rm_tin la Z a0 hw [] b134 (K i1.toNatClampNeg) x_127 x4 ((x4.toUInt32 >>> ((3 : Int32) &&& 31).toUInt32).toInt32) ((x4.toUInt32 >>> ((7 : Int32) &&& 31).toUInt32).toInt32) h134 n0 O142 A134 f137 f138 f139 f140 f141 g_b134) hZ (wd38 hw) (wd35 hw) (by decide) (by decide)) (g := (mkF mi 182 #[.val (.int x0), .val (.int x1), .val (.int x2), .val (.int x3), .val (.int x4), .val (.int i1), .val (.int i2), .val (.int t0), .val (.int t1), .val (.int e0), .val (.int e1), .val (.int lt), .val (.int le), .val (.ref (K i1.toNatClampNeg)), .val (.ref (K i2.toNatClampNeg)), .val (.ref x_127), .val (.ref x_131), .unset, .unset] [(.int ((x4.toUInt32 >>> ((7 : Int32) &&& 31).toUInt32).toInt32)), (.int ((x4.toUInt32 >>> ((3 : Int32) &&& 31).toUInt32).toInt32)), (.int x4), (.ref x_127), (.ref (K i1.toNatClampNeg)), (.ref b134), (.ref b134)])) rfl (by rw [hml]; rfl) (Steps.refl _) (a := b134) (argsL := [(.ref (K i1.toNatClampNeg)), (.ref x_127), (.int x4), (.int ((x4.toUInt32 >>> ((3 : Int32) &&& 31).toUInt32).toInt32)), (.int ((x4.toUInt32 >>> ((7 : Int32) &&& 31).toUInt32).toInt32))]) (rest := [(.ref b134)]) (lenOf pd_8 rfl) rfl (by show 2 * 0 + _ ≤ _; exact Nat.le_of_eq rfl) (hb hby at_182) (fun _ _ => ⟨rfl, e134, (by decide : 13 + 0 ≤ _), (by decide : 29 + 0 ≤ _)⟩)
  dsimp only [Pt.U, Pt.locs, Pt.cells, Pt.slots] at X144 l144 y144 z144 st144 hQ144
  subst l144 y144 z144
  obtain ⟨rfl, Nq144, Kq144, r144_0, r144_1, r144_2⟩ := hQ144
  have N144 := Fr.app N131 Nq144
  have c145 := CHr.keep Kq144 (sfS (Safe.exa hZ.alike A134 (by decide) (by decide)) sf0) C136.1
  have C146 := CHr.trans C136 c145
  have pre147 : ∀ tt, Steps pg.tables ev below (T144.setTop (mkF mi 191 #[.val (.int x0), .val (.int x1), .val (.int x2), .val (.int x3), .val (.int x4), .val (.int i1), .val (.int i2), .val (.int t0), .val (.int t1), .val (.int e0), .val (.int e1), .val (.int lt), .val (.int le), .val (.ref (K i1.toNatClampNeg)), .val (.ref (K i2.toNatClampNeg)), .val (.ref x_127), .val (.ref x_131), .val (.ref b134), .unset] [(.int i2), (.int i1)])) tt → Steps pg.tables ev below (s₁.setTop (entryFrame mi #[(.int x0), (.int x1), (.int x2), (.int x3), (.int x4)] maxLocals)) tt := fun tt kk => pre132 _ (by
    show Steps pg.tables ev below (T127.setTop (mkF mi 158 #[.val (.int x0), .val (.int x1), .val (.int x2), .val (.int x3), .val (.int x4), .val (.int i1), .val (.int i2), .val (.int t0), .val (.int t1), .val (.int e0), .val (.int e1), .val (.int lt), .val (.int le), .val (.ref (K i1.toNatClampNeg)), .val (.ref (K i2.toNatClampNeg)), .val (.ref x_127), .unset, .unset, .unset] [(.int e1), (.int e0), (.int le)])) _
    refine st131.trans ?_
    show Steps pg.tables ev below (T131.setTop (mkF mi 161 #[.val (.int x0), .val (.int x1), .val (.int x2), .val (.int x3), .val (.int x4), .val (.int i1), .val (.int i2), .val (.int t0), .val (.int t1), .val (.int e0), .val (.int e1), .val (.int lt), .val (.int le), .val (.ref (K i1.toNatClampNeg)), .val (.ref (K i2.toNatClampNeg)), .val (.ref x_127), .unset, .unset, .unset] [(.ref x_131)])) _
    refine XS.astore X131.here hx rfl (hb hby at_161) rfl rfl (l' := #[.val (.int x0), .val (.int x1), .val (.int x2), .val (.int x3), .val (.int x4), .val (.int i1), .val (.int i2), .val (.int t0), .val (.int t1), .val (.int e0), .val (.int e1), .val (.int lt), .val (.int le), .val (.ref (K i1.toNatClampNeg)), .val (.ref (K i2.toNatClampNeg)), .val (.ref x_127), .val (.ref x_131), .unset, .unset]) rfl ?_
    show Steps pg.tables ev below (T131.setTop (mkF mi 163 #[.val (.int x0), .val (.int x1), .val (.int x2), .val (.int x3), .val (.int x4), .val (.int i1), .val (.int i2), .val (.int t0), .val (.int t1), .val (.int e0), .val (.int e1), .val (.int lt), .val (.int le), .val (.ref (K i1.toNatClampNeg)), .val (.ref (K i2.toNatClampNeg)), .val (.ref x_127), .val (.ref x_131), .unset, .unset] [])) _
    refine st134 _ ?_
    show Steps pg.tables ev below (T134.setTop (mkF mi 166 #[.val (.int x0), .val (.int x1), .val (.int x2), .val (.int x3), .val (.int x4), .val (.int i1), .val (.int i2), .val (.int t0), .val (.int t1), .val (.int e0), .val (.int e1), .val (.int lt), .val (.int le), .val (.ref (K i1.toNatClampNeg)), .val (.ref (K i2.toNatClampNeg)), .val (.ref x_127), .val (.ref x_131), .unset, .unset] [(.ref b134)])) _
    refine XS.dup X134.here hx rfl (hb hby at_166) rfl rfl ?_
    show Steps pg.tables ev below (T134.setTop (mkF mi 167 #[.val (.int x0), .val (.int x1), .val (.int x2), .val (.int x3), .val (.int x4), .val (.int i1), .val (.int i2), .val (.int t0), .val (.int t1), .val (.int e0), .val (.int e1), .val (.int lt), .val (.int le), .val (.ref (K i1.toNatClampNeg)), .val (.ref (K i2.toNatClampNeg)), .val (.ref x_127), .val (.ref x_131), .unset, .unset] [(.ref b134), (.ref b134)])) _
    refine XS.aload X134.here hx rfl (hb hby at_167) rfl rfl ?_
    show Steps pg.tables ev below (T134.setTop (mkF mi 169 #[.val (.int x0), .val (.int x1), .val (.int x2), .val (.int x3), .val (.int x4), .val (.int i1), .val (.int i2), .val (.int t0), .val (.int t1), .val (.int e0), .val (.int e1), .val (.int lt), .val (.int le), .val (.ref (K i1.toNatClampNeg)), .val (.ref (K i2.toNatClampNeg)), .val (.ref x_127), .val (.ref x_131), .unset, .unset] [(.ref (K i1.toNatClampNeg)), (.ref b134), (.ref b134)])) _
    refine XS.aload X134.here hx rfl (hb hby at_169) rfl rfl ?_
    show Steps pg.tables ev below (T134.setTop (mkF mi 171 #[.val (.int x0), .val (.int x1), .val (.int x2), .val (.int x3), .val (.int x4), .val (.int i1), .val (.int i2), .val (.int t0), .val (.int t1), .val (.int e0), .val (.int e1), .val (.int lt), .val (.int le), .val (.ref (K i1.toNatClampNeg)), .val (.ref (K i2.toNatClampNeg)), .val (.ref x_127), .val (.ref x_131), .unset, .unset] [(.ref x_127), (.ref (K i1.toNatClampNeg)), (.ref b134), (.ref b134)])) _
    refine XS.iload X134.here hx rfl (hb hby at_171) rfl ?_
    show Steps pg.tables ev below (T134.setTop (mkF mi 173 #[.val (.int x0), .val (.int x1), .val (.int x2), .val (.int x3), .val (.int x4), .val (.int i1), .val (.int i2), .val (.int t0), .val (.int t1), .val (.int e0), .val (.int e1), .val (.int lt), .val (.int le), .val (.ref (K i1.toNatClampNeg)), .val (.ref (K i2.toNatClampNeg)), .val (.ref x_127), .val (.ref x_131), .unset, .unset] [(.int x4), (.ref x_127), (.ref (K i1.toNatClampNeg)), (.ref b134), (.ref b134)])) _
    refine XS.iload X134.here hx rfl (hb hby at_173) rfl ?_
    show Steps pg.tables ev below (T134.setTop (mkF mi 175 #[.val (.int x0), .val (.int x1), .val (.int x2), .val (.int x3), .val (.int x4), .val (.int i1), .val (.int i2), .val (.int t0), .val (.int t1), .val (.int e0), .val (.int e1), .val (.int lt), .val (.int le), .val (.ref (K i1.toNatClampNeg)), .val (.ref (K i2.toNatClampNeg)), .val (.ref x_127), .val (.ref x_131), .unset, .unset] [(.int x4), (.int x4), (.ref x_127), (.ref (K i1.toNatClampNeg)), (.ref b134), (.ref b134)])) _
    refine XS.iconst X134.here hx rfl (hb hby at_175) ?_
    show Steps pg.tables ev below (T134.setTop (mkF mi 176 #[.val (.int x0), .val (.int x1), .val (.int x2), .val (.int x3), .val (.int x4), .val (.int i1), .val (.int i2), .val (.int t0), .val (.int t1), .val (.int e0), .val (.int e1), .val (.int lt), .val (.int le), .val (.ref (K i1.toNatClampNeg)), .val (.ref (K i2.toNatClampNeg)), .val (.ref x_127), .val (.ref x_131), .unset, .unset] [(.int (3 : Int32)), (.int x4), (.int x4), (.ref x_127), (.ref (K i1.toNatClampNeg)), (.ref b134), (.ref b134)])) _
    refine XS.iushr X134.here hx rfl (hb hby at_176) rfl ?_
    show Steps pg.tables ev below (T134.setTop (mkF mi 177 #[.val (.int x0), .val (.int x1), .val (.int x2), .val (.int x3), .val (.int x4), .val (.int i1), .val (.int i2), .val (.int t0), .val (.int t1), .val (.int e0), .val (.int e1), .val (.int lt), .val (.int le), .val (.ref (K i1.toNatClampNeg)), .val (.ref (K i2.toNatClampNeg)), .val (.ref x_127), .val (.ref x_131), .unset, .unset] [(.int ((x4.toUInt32 >>> ((3 : Int32) &&& 31).toUInt32).toInt32)), (.int x4), (.ref x_127), (.ref (K i1.toNatClampNeg)), (.ref b134), (.ref b134)])) _
    refine XS.iload X134.here hx rfl (hb hby at_177) rfl ?_
    show Steps pg.tables ev below (T134.setTop (mkF mi 179 #[.val (.int x0), .val (.int x1), .val (.int x2), .val (.int x3), .val (.int x4), .val (.int i1), .val (.int i2), .val (.int t0), .val (.int t1), .val (.int e0), .val (.int e1), .val (.int lt), .val (.int le), .val (.ref (K i1.toNatClampNeg)), .val (.ref (K i2.toNatClampNeg)), .val (.ref x_127), .val (.ref x_131), .unset, .unset] [(.int x4), (.int ((x4.toUInt32 >>> ((3 : Int32) &&& 31).toUInt32).toInt32)), (.int x4), (.ref x_127), (.ref (K i1.toNatClampNeg)), (.ref b134), (.ref b134)])) _
    refine XS.bipush X134.here hx rfl (hb hby at_179) ?_
    show Steps pg.tables ev below (T134.setTop (mkF mi 181 #[.val (.int x0), .val (.int x1), .val (.int x2), .val (.int x3), .val (.int x4), .val (.int i1), .val (.int i2), .val (.int t0), .val (.int t1), .val (.int e0), .val (.int e1), .val (.int lt), .val (.int le), .val (.ref (K i1.toNatClampNeg)), .val (.ref (K i2.toNatClampNeg)), .val (.ref x_127), .val (.ref x_131), .unset, .unset] [(.int (7 : Int32)), (.int x4), (.int ((x4.toUInt32 >>> ((3 : Int32) &&& 31).toUInt32).toInt32)), (.int x4), (.ref x_127), (.ref (K i1.toNatClampNeg)), (.ref b134), (.ref b134)])) _
    refine XS.iushr X134.here hx rfl (hb hby at_181) rfl ?_
    show Steps pg.tables ev below (T134.setTop (mkF mi 182 #[.val (.int x0), .val (.int x1), .val (.int x2), .val (.int x3), .val (.int x4), .val (.int i1), .val (.int i2), .val (.int t0), .val (.int t1), .val (.int e0), .val (.int e1), .val (.int lt), .val (.int le), .val (.ref (K i1.toNatClampNeg)), .val (.ref (K i2.toNatClampNeg)), .val (.ref x_127), .val (.ref x_131), .unset, .unset] [(.int ((x4.toUInt32 >>> ((7 : Int32) &&& 31).toUInt32).toInt32)), (.int ((x4.toUInt32 >>> ((3 : Int32) &&& 31).toUInt32).toInt32)), (.int x4), (.ref x_127), (.ref (K i1.toNatClampNeg)), (.ref b134), (.ref b134)])) _
    refine st144.trans ?_
    show Steps pg.tables ev below (T144.setTop (mkF mi 185 #[.val (.int x0), .val (.int x1), .val (.int x2), .val (.int x3), .val (.int x4), .val (.int i1), .val (.int i2), .val (.int t0), .val (.int t1), .val (.int e0), .val (.int e1), .val (.int lt), .val (.int le), .val (.ref (K i1.toNatClampNeg)), .val (.ref (K i2.toNatClampNeg)), .val (.ref x_127), .val (.ref x_131), .unset, .unset] [(.ref b134)])) _
    refine XS.astore X144.here hx rfl (hb hby at_185) rfl rfl (l' := #[.val (.int x0), .val (.int x1), .val (.int x2), .val (.int x3), .val (.int x4), .val (.int i1), .val (.int i2), .val (.int t0), .val (.int t1), .val (.int e0), .val (.int e1), .val (.int lt), .val (.int le), .val (.ref (K i1.toNatClampNeg)), .val (.ref (K i2.toNatClampNeg)), .val (.ref x_127), .val (.ref x_131), .val (.ref b134), .unset]) rfl ?_
    show Steps pg.tables ev below (T144.setTop (mkF mi 187 #[.val (.int x0), .val (.int x1), .val (.int x2), .val (.int x3), .val (.int x4), .val (.int i1), .val (.int i2), .val (.int t0), .val (.int t1), .val (.int e0), .val (.int e1), .val (.int lt), .val (.int le), .val (.ref (K i1.toNatClampNeg)), .val (.ref (K i2.toNatClampNeg)), .val (.ref x_127), .val (.ref x_131), .val (.ref b134), .unset] [])) _
    refine XS.iload X144.here hx rfl (hb hby at_187) rfl ?_
    show Steps pg.tables ev below (T144.setTop (mkF mi 189 #[.val (.int x0), .val (.int x1), .val (.int x2), .val (.int x3), .val (.int x4), .val (.int i1), .val (.int i2), .val (.int t0), .val (.int t1), .val (.int e0), .val (.int e1), .val (.int lt), .val (.int le), .val (.ref (K i1.toNatClampNeg)), .val (.ref (K i2.toNatClampNeg)), .val (.ref x_127), .val (.ref x_131), .val (.ref b134), .unset] [(.int i1)])) _
    refine XS.iload X144.here hx rfl (hb hby at_189) rfl ?_
    exact kk)
  have pre156 : ∀ tt, Steps pg.tables ev below (T144.setTop (mkF mi 232 #[.val (.int x0), .val (.int x1), .val (.int x2), .val (.int x3), .val (.int x4), .val (.int i1), .val (.int i2), .val (.int t0), .val (.int t1), .val (.int e0), .val (.int e1), .val (.int lt), .val (.int le), .val (.ref (K i1.toNatClampNeg)), .val (.ref (K i2.toNatClampNeg)), .val (.ref x_127), .val (.ref x_131), .val (.ref b134), .unset] [(.int (if i1 = i2 then (if lt = le then (if lt < (1 : Int32) then (if lt < (2 : Int32) then (1 : Int32) else (if t1 = e1 then (1 : Int32) else (0 : Int32))) else (if t0 = e0 then (if lt < (2 : Int32) then (1 : Int32) else (if t1 = e1 then (1 : Int32) else (0 : Int32))) else (0 : Int32))) else (0 : Int32)) else (0 : Int32)))])) tt → Steps pg.tables ev below (s₁.setTop (entryFrame mi #[(.int x0), (.int x1), (.int x2), (.int x3), (.int x4)] maxLocals)) tt := fun tt kk => pre147 _ (by
    by_cases hm148 : i1 = i2
    · try simp only [if_pos hm148] at kk
      show Steps pg.tables ev below (T144.setTop (mkF mi 191 #[.val (.int x0), .val (.int x1), .val (.int x2), .val (.int x3), .val (.int x4), .val (.int i1), .val (.int i2), .val (.int t0), .val (.int t1), .val (.int e0), .val (.int e1), .val (.int lt), .val (.int le), .val (.ref (K i1.toNatClampNeg)), .val (.ref (K i2.toNatClampNeg)), .val (.ref x_127), .val (.ref x_131), .val (.ref b134), .unset] [(.int i2), (.int i1)])) _
      refine XS.icmpNo X144.here hx rfl (hb hby at_191) rfl (teq hm148).2 ?_
      show Steps pg.tables ev below (T144.setTop (mkF mi 194 #[.val (.int x0), .val (.int x1), .val (.int x2), .val (.int x3), .val (.int x4), .val (.int i1), .val (.int i2), .val (.int t0), .val (.int t1), .val (.int e0), .val (.int e1), .val (.int lt), .val (.int le), .val (.ref (K i1.toNatClampNeg)), .val (.ref (K i2.toNatClampNeg)), .val (.ref x_127), .val (.ref x_131), .val (.ref b134), .unset] [])) _
      refine XS.iload X144.here hx rfl (hb hby at_194) rfl ?_
      show Steps pg.tables ev below (T144.setTop (mkF mi 196 #[.val (.int x0), .val (.int x1), .val (.int x2), .val (.int x3), .val (.int x4), .val (.int i1), .val (.int i2), .val (.int t0), .val (.int t1), .val (.int e0), .val (.int e1), .val (.int lt), .val (.int le), .val (.ref (K i1.toNatClampNeg)), .val (.ref (K i2.toNatClampNeg)), .val (.ref x_127), .val (.ref x_131), .val (.ref b134), .unset] [(.int lt)])) _
      refine XS.iload X144.here hx rfl (hb hby at_196) rfl ?_
      by_cases hm149 : lt = le
      · try simp only [if_pos hm149] at kk
        show Steps pg.tables ev below (T144.setTop (mkF mi 198 #[.val (.int x0), .val (.int x1), .val (.int x2), .val (.int x3), .val (.int x4), .val (.int i1), .val (.int i2), .val (.int t0), .val (.int t1), .val (.int e0), .val (.int e1), .val (.int lt), .val (.int le), .val (.ref (K i1.toNatClampNeg)), .val (.ref (K i2.toNatClampNeg)), .val (.ref x_127), .val (.ref x_131), .val (.ref b134), .unset] [(.int le), (.int lt)])) _
        refine XS.icmpNo X144.here hx rfl (hb hby at_198) rfl (teq hm149).2 ?_
        show Steps pg.tables ev below (T144.setTop (mkF mi 201 #[.val (.int x0), .val (.int x1), .val (.int x2), .val (.int x3), .val (.int x4), .val (.int i1), .val (.int i2), .val (.int t0), .val (.int t1), .val (.int e0), .val (.int e1), .val (.int lt), .val (.int le), .val (.ref (K i1.toNatClampNeg)), .val (.ref (K i2.toNatClampNeg)), .val (.ref x_127), .val (.ref x_131), .val (.ref b134), .unset] [])) _
        refine XS.iload X144.here hx rfl (hb hby at_201) rfl ?_
        show Steps pg.tables ev below (T144.setTop (mkF mi 203 #[.val (.int x0), .val (.int x1), .val (.int x2), .val (.int x3), .val (.int x4), .val (.int i1), .val (.int i2), .val (.int t0), .val (.int t1), .val (.int e0), .val (.int e1), .val (.int lt), .val (.int le), .val (.ref (K i1.toNatClampNeg)), .val (.ref (K i2.toNatClampNeg)), .val (.ref x_127), .val (.ref x_131), .val (.ref b134), .unset] [(.int lt)])) _
        refine XS.iconst X144.here hx rfl (hb hby at_203) ?_
        by_cases hm150 : lt < (1 : Int32)
        · try simp only [if_pos hm150] at kk
          show Steps pg.tables ev below (T144.setTop (mkF mi 204 #[.val (.int x0), .val (.int x1), .val (.int x2), .val (.int x3), .val (.int x4), .val (.int i1), .val (.int i2), .val (.int t0), .val (.int t1), .val (.int e0), .val (.int e1), .val (.int lt), .val (.int le), .val (.ref (K i1.toNatClampNeg)), .val (.ref (K i2.toNatClampNeg)), .val (.ref x_127), .val (.ref x_131), .val (.ref b134), .unset] [(.int (1 : Int32)), (.int lt)])) _
          refine XS.icmpYes X144.here hx rfl (pc0 := 204) (pc' := 214) rfl (hb hby at_204) rfl (tlt hm150).1 (by decide) (by decide) ?_
          show Steps pg.tables ev below (T144.setTop (mkF mi 214 #[.val (.int x0), .val (.int x1), .val (.int x2), .val (.int x3), .val (.int x4), .val (.int i1), .val (.int i2), .val (.int t0), .val (.int t1), .val (.int e0), .val (.int e1), .val (.int lt), .val (.int le), .val (.ref (K i1.toNatClampNeg)), .val (.ref (K i2.toNatClampNeg)), .val (.ref x_127), .val (.ref x_131), .val (.ref b134), .unset] [])) _
          refine XS.iload X144.here hx rfl (hb hby at_214) rfl ?_
          show Steps pg.tables ev below (T144.setTop (mkF mi 216 #[.val (.int x0), .val (.int x1), .val (.int x2), .val (.int x3), .val (.int x4), .val (.int i1), .val (.int i2), .val (.int t0), .val (.int t1), .val (.int e0), .val (.int e1), .val (.int lt), .val (.int le), .val (.ref (K i1.toNatClampNeg)), .val (.ref (K i2.toNatClampNeg)), .val (.ref x_127), .val (.ref x_131), .val (.ref b134), .unset] [(.int lt)])) _
          refine XS.iconst X144.here hx rfl (hb hby at_216) ?_
          by_cases hm151 : lt < (2 : Int32)
          · try simp only [if_pos hm151] at kk
            show Steps pg.tables ev below (T144.setTop (mkF mi 217 #[.val (.int x0), .val (.int x1), .val (.int x2), .val (.int x3), .val (.int x4), .val (.int i1), .val (.int i2), .val (.int t0), .val (.int t1), .val (.int e0), .val (.int e1), .val (.int lt), .val (.int le), .val (.ref (K i1.toNatClampNeg)), .val (.ref (K i2.toNatClampNeg)), .val (.ref x_127), .val (.ref x_131), .val (.ref b134), .unset] [(.int (2 : Int32)), (.int lt)])) _
            refine XS.icmpYes X144.here hx rfl (pc0 := 217) (pc' := 227) rfl (hb hby at_217) rfl (tlt hm151).1 (by decide) (by decide) ?_
            show Steps pg.tables ev below (T144.setTop (mkF mi 227 #[.val (.int x0), .val (.int x1), .val (.int x2), .val (.int x3), .val (.int x4), .val (.int i1), .val (.int i2), .val (.int t0), .val (.int t1), .val (.int e0), .val (.int e1), .val (.int lt), .val (.int le), .val (.ref (K i1.toNatClampNeg)), .val (.ref (K i2.toNatClampNeg)), .val (.ref x_127), .val (.ref x_131), .val (.ref b134), .unset] [])) _
            refine XS.iconst X144.here hx rfl (hb hby at_227) ?_
            show Steps pg.tables ev below (T144.setTop (mkF mi 228 #[.val (.int x0), .val (.int x1), .val (.int x2), .val (.int x3), .val (.int x4), .val (.int i1), .val (.int i2), .val (.int t0), .val (.int t1), .val (.int e0), .val (.int e1), .val (.int lt), .val (.int le), .val (.ref (K i1.toNatClampNeg)), .val (.ref (K i2.toNatClampNeg)), .val (.ref x_127), .val (.ref x_131), .val (.ref b134), .unset] [(.int (1 : Int32))])) _
            refine XS.goto X144.here hx rfl (pc0 := 228) (pc' := 232) rfl (hb hby at_228) (by decide) (by decide) ?_
            exact kk
          · try simp only [if_neg hm151] at kk
            show Steps pg.tables ev below (T144.setTop (mkF mi 217 #[.val (.int x0), .val (.int x1), .val (.int x2), .val (.int x3), .val (.int x4), .val (.int i1), .val (.int i2), .val (.int t0), .val (.int t1), .val (.int e0), .val (.int e1), .val (.int lt), .val (.int le), .val (.ref (K i1.toNatClampNeg)), .val (.ref (K i2.toNatClampNeg)), .val (.ref x_127), .val (.ref x_131), .val (.ref b134), .unset] [(.int (2 : Int32)), (.int lt)])) _
            refine XS.icmpNo X144.here hx rfl (hb hby at_217) rfl (flt hm151).1 ?_
            show Steps pg.tables ev below (T144.setTop (mkF mi 220 #[.val (.int x0), .val (.int x1), .val (.int x2), .val (.int x3), .val (.int x4), .val (.int i1), .val (.int i2), .val (.int t0), .val (.int t1), .val (.int e0), .val (.int e1), .val (.int lt), .val (.int le), .val (.ref (K i1.toNatClampNeg)), .val (.ref (K i2.toNatClampNeg)), .val (.ref x_127), .val (.ref x_131), .val (.ref b134), .unset] [])) _
            refine XS.iload X144.here hx rfl (hb hby at_220) rfl ?_
            show Steps pg.tables ev below (T144.setTop (mkF mi 222 #[.val (.int x0), .val (.int x1), .val (.int x2), .val (.int x3), .val (.int x4), .val (.int i1), .val (.int i2), .val (.int t0), .val (.int t1), .val (.int e0), .val (.int e1), .val (.int lt), .val (.int le), .val (.ref (K i1.toNatClampNeg)), .val (.ref (K i2.toNatClampNeg)), .val (.ref x_127), .val (.ref x_131), .val (.ref b134), .unset] [(.int t1)])) _
            refine XS.iload X144.here hx rfl (hb hby at_222) rfl ?_
            by_cases hm152 : t1 = e1
            · try simp only [if_pos hm152] at kk
              show Steps pg.tables ev below (T144.setTop (mkF mi 224 #[.val (.int x0), .val (.int x1), .val (.int x2), .val (.int x3), .val (.int x4), .val (.int i1), .val (.int i2), .val (.int t0), .val (.int t1), .val (.int e0), .val (.int e1), .val (.int lt), .val (.int le), .val (.ref (K i1.toNatClampNeg)), .val (.ref (K i2.toNatClampNeg)), .val (.ref x_127), .val (.ref x_131), .val (.ref b134), .unset] [(.int e1), (.int t1)])) _
              refine XS.icmpNo X144.here hx rfl (hb hby at_224) rfl (teq hm152).2 ?_
              show Steps pg.tables ev below (T144.setTop (mkF mi 227 #[.val (.int x0), .val (.int x1), .val (.int x2), .val (.int x3), .val (.int x4), .val (.int i1), .val (.int i2), .val (.int t0), .val (.int t1), .val (.int e0), .val (.int e1), .val (.int lt), .val (.int le), .val (.ref (K i1.toNatClampNeg)), .val (.ref (K i2.toNatClampNeg)), .val (.ref x_127), .val (.ref x_131), .val (.ref b134), .unset] [])) _
              refine XS.iconst X144.here hx rfl (hb hby at_227) ?_
              show Steps pg.tables ev below (T144.setTop (mkF mi 228 #[.val (.int x0), .val (.int x1), .val (.int x2), .val (.int x3), .val (.int x4), .val (.int i1), .val (.int i2), .val (.int t0), .val (.int t1), .val (.int e0), .val (.int e1), .val (.int lt), .val (.int le), .val (.ref (K i1.toNatClampNeg)), .val (.ref (K i2.toNatClampNeg)), .val (.ref x_127), .val (.ref x_131), .val (.ref b134), .unset] [(.int (1 : Int32))])) _
              refine XS.goto X144.here hx rfl (pc0 := 228) (pc' := 232) rfl (hb hby at_228) (by decide) (by decide) ?_
              exact kk
            · try simp only [if_neg hm152] at kk
              show Steps pg.tables ev below (T144.setTop (mkF mi 224 #[.val (.int x0), .val (.int x1), .val (.int x2), .val (.int x3), .val (.int x4), .val (.int i1), .val (.int i2), .val (.int t0), .val (.int t1), .val (.int e0), .val (.int e1), .val (.int lt), .val (.int le), .val (.ref (K i1.toNatClampNeg)), .val (.ref (K i2.toNatClampNeg)), .val (.ref x_127), .val (.ref x_131), .val (.ref b134), .unset] [(.int e1), (.int t1)])) _
              refine XS.icmpYes X144.here hx rfl (pc0 := 224) (pc' := 231) rfl (hb hby at_224) rfl (feq hm152).2 (by decide) (by decide) ?_
              show Steps pg.tables ev below (T144.setTop (mkF mi 231 #[.val (.int x0), .val (.int x1), .val (.int x2), .val (.int x3), .val (.int x4), .val (.int i1), .val (.int i2), .val (.int t0), .val (.int t1), .val (.int e0), .val (.int e1), .val (.int lt), .val (.int le), .val (.ref (K i1.toNatClampNeg)), .val (.ref (K i2.toNatClampNeg)), .val (.ref x_127), .val (.ref x_131), .val (.ref b134), .unset] [])) _
              refine XS.iconst X144.here hx rfl (hb hby at_231) ?_
              exact kk
        · try simp only [if_neg hm150] at kk
          show Steps pg.tables ev below (T144.setTop (mkF mi 204 #[.val (.int x0), .val (.int x1), .val (.int x2), .val (.int x3), .val (.int x4), .val (.int i1), .val (.int i2), .val (.int t0), .val (.int t1), .val (.int e0), .val (.int e1), .val (.int lt), .val (.int le), .val (.ref (K i1.toNatClampNeg)), .val (.ref (K i2.toNatClampNeg)), .val (.ref x_127), .val (.ref x_131), .val (.ref b134), .unset] [(.int (1 : Int32)), (.int lt)])) _
          refine XS.icmpNo X144.here hx rfl (hb hby at_204) rfl (flt hm150).1 ?_
          show Steps pg.tables ev below (T144.setTop (mkF mi 207 #[.val (.int x0), .val (.int x1), .val (.int x2), .val (.int x3), .val (.int x4), .val (.int i1), .val (.int i2), .val (.int t0), .val (.int t1), .val (.int e0), .val (.int e1), .val (.int lt), .val (.int le), .val (.ref (K i1.toNatClampNeg)), .val (.ref (K i2.toNatClampNeg)), .val (.ref x_127), .val (.ref x_131), .val (.ref b134), .unset] [])) _
          refine XS.iload X144.here hx rfl (hb hby at_207) rfl ?_
          show Steps pg.tables ev below (T144.setTop (mkF mi 209 #[.val (.int x0), .val (.int x1), .val (.int x2), .val (.int x3), .val (.int x4), .val (.int i1), .val (.int i2), .val (.int t0), .val (.int t1), .val (.int e0), .val (.int e1), .val (.int lt), .val (.int le), .val (.ref (K i1.toNatClampNeg)), .val (.ref (K i2.toNatClampNeg)), .val (.ref x_127), .val (.ref x_131), .val (.ref b134), .unset] [(.int t0)])) _
          refine XS.iload X144.here hx rfl (hb hby at_209) rfl ?_
          by_cases hm153 : t0 = e0
          · try simp only [if_pos hm153] at kk
            show Steps pg.tables ev below (T144.setTop (mkF mi 211 #[.val (.int x0), .val (.int x1), .val (.int x2), .val (.int x3), .val (.int x4), .val (.int i1), .val (.int i2), .val (.int t0), .val (.int t1), .val (.int e0), .val (.int e1), .val (.int lt), .val (.int le), .val (.ref (K i1.toNatClampNeg)), .val (.ref (K i2.toNatClampNeg)), .val (.ref x_127), .val (.ref x_131), .val (.ref b134), .unset] [(.int e0), (.int t0)])) _
            refine XS.icmpNo X144.here hx rfl (hb hby at_211) rfl (teq hm153).2 ?_
            show Steps pg.tables ev below (T144.setTop (mkF mi 214 #[.val (.int x0), .val (.int x1), .val (.int x2), .val (.int x3), .val (.int x4), .val (.int i1), .val (.int i2), .val (.int t0), .val (.int t1), .val (.int e0), .val (.int e1), .val (.int lt), .val (.int le), .val (.ref (K i1.toNatClampNeg)), .val (.ref (K i2.toNatClampNeg)), .val (.ref x_127), .val (.ref x_131), .val (.ref b134), .unset] [])) _
            refine XS.iload X144.here hx rfl (hb hby at_214) rfl ?_
            show Steps pg.tables ev below (T144.setTop (mkF mi 216 #[.val (.int x0), .val (.int x1), .val (.int x2), .val (.int x3), .val (.int x4), .val (.int i1), .val (.int i2), .val (.int t0), .val (.int t1), .val (.int e0), .val (.int e1), .val (.int lt), .val (.int le), .val (.ref (K i1.toNatClampNeg)), .val (.ref (K i2.toNatClampNeg)), .val (.ref x_127), .val (.ref x_131), .val (.ref b134), .unset] [(.int lt)])) _
            refine XS.iconst X144.here hx rfl (hb hby at_216) ?_
            by_cases hm154 : lt < (2 : Int32)
            · try simp only [if_pos hm154] at kk
              show Steps pg.tables ev below (T144.setTop (mkF mi 217 #[.val (.int x0), .val (.int x1), .val (.int x2), .val (.int x3), .val (.int x4), .val (.int i1), .val (.int i2), .val (.int t0), .val (.int t1), .val (.int e0), .val (.int e1), .val (.int lt), .val (.int le), .val (.ref (K i1.toNatClampNeg)), .val (.ref (K i2.toNatClampNeg)), .val (.ref x_127), .val (.ref x_131), .val (.ref b134), .unset] [(.int (2 : Int32)), (.int lt)])) _
              refine XS.icmpYes X144.here hx rfl (pc0 := 217) (pc' := 227) rfl (hb hby at_217) rfl (tlt hm154).1 (by decide) (by decide) ?_
              show Steps pg.tables ev below (T144.setTop (mkF mi 227 #[.val (.int x0), .val (.int x1), .val (.int x2), .val (.int x3), .val (.int x4), .val (.int i1), .val (.int i2), .val (.int t0), .val (.int t1), .val (.int e0), .val (.int e1), .val (.int lt), .val (.int le), .val (.ref (K i1.toNatClampNeg)), .val (.ref (K i2.toNatClampNeg)), .val (.ref x_127), .val (.ref x_131), .val (.ref b134), .unset] [])) _
              refine XS.iconst X144.here hx rfl (hb hby at_227) ?_
              show Steps pg.tables ev below (T144.setTop (mkF mi 228 #[.val (.int x0), .val (.int x1), .val (.int x2), .val (.int x3), .val (.int x4), .val (.int i1), .val (.int i2), .val (.int t0), .val (.int t1), .val (.int e0), .val (.int e1), .val (.int lt), .val (.int le), .val (.ref (K i1.toNatClampNeg)), .val (.ref (K i2.toNatClampNeg)), .val (.ref x_127), .val (.ref x_131), .val (.ref b134), .unset] [(.int (1 : Int32))])) _
              refine XS.goto X144.here hx rfl (pc0 := 228) (pc' := 232) rfl (hb hby at_228) (by decide) (by decide) ?_
              exact kk
            · try simp only [if_neg hm154] at kk
              show Steps pg.tables ev below (T144.setTop (mkF mi 217 #[.val (.int x0), .val (.int x1), .val (.int x2), .val (.int x3), .val (.int x4), .val (.int i1), .val (.int i2), .val (.int t0), .val (.int t1), .val (.int e0), .val (.int e1), .val (.int lt), .val (.int le), .val (.ref (K i1.toNatClampNeg)), .val (.ref (K i2.toNatClampNeg)), .val (.ref x_127), .val (.ref x_131), .val (.ref b134), .unset] [(.int (2 : Int32)), (.int lt)])) _
              refine XS.icmpNo X144.here hx rfl (hb hby at_217) rfl (flt hm154).1 ?_
              show Steps pg.tables ev below (T144.setTop (mkF mi 220 #[.val (.int x0), .val (.int x1), .val (.int x2), .val (.int x3), .val (.int x4), .val (.int i1), .val (.int i2), .val (.int t0), .val (.int t1), .val (.int e0), .val (.int e1), .val (.int lt), .val (.int le), .val (.ref (K i1.toNatClampNeg)), .val (.ref (K i2.toNatClampNeg)), .val (.ref x_127), .val (.ref x_131), .val (.ref b134), .unset] [])) _
              refine XS.iload X144.here hx rfl (hb hby at_220) rfl ?_
              show Steps pg.tables ev below (T144.setTop (mkF mi 222 #[.val (.int x0), .val (.int x1), .val (.int x2), .val (.int x3), .val (.int x4), .val (.int i1), .val (.int i2), .val (.int t0), .val (.int t1), .val (.int e0), .val (.int e1), .val (.int lt), .val (.int le), .val (.ref (K i1.toNatClampNeg)), .val (.ref (K i2.toNatClampNeg)), .val (.ref x_127), .val (.ref x_131), .val (.ref b134), .unset] [(.int t1)])) _
              refine XS.iload X144.here hx rfl (hb hby at_222) rfl ?_
              by_cases hm155 : t1 = e1
              · try simp only [if_pos hm155] at kk
                show Steps pg.tables ev below (T144.setTop (mkF mi 224 #[.val (.int x0), .val (.int x1), .val (.int x2), .val (.int x3), .val (.int x4), .val (.int i1), .val (.int i2), .val (.int t0), .val (.int t1), .val (.int e0), .val (.int e1), .val (.int lt), .val (.int le), .val (.ref (K i1.toNatClampNeg)), .val (.ref (K i2.toNatClampNeg)), .val (.ref x_127), .val (.ref x_131), .val (.ref b134), .unset] [(.int e1), (.int t1)])) _
                refine XS.icmpNo X144.here hx rfl (hb hby at_224) rfl (teq hm155).2 ?_
                show Steps pg.tables ev below (T144.setTop (mkF mi 227 #[.val (.int x0), .val (.int x1), .val (.int x2), .val (.int x3), .val (.int x4), .val (.int i1), .val (.int i2), .val (.int t0), .val (.int t1), .val (.int e0), .val (.int e1), .val (.int lt), .val (.int le), .val (.ref (K i1.toNatClampNeg)), .val (.ref (K i2.toNatClampNeg)), .val (.ref x_127), .val (.ref x_131), .val (.ref b134), .unset] [])) _
                refine XS.iconst X144.here hx rfl (hb hby at_227) ?_
                show Steps pg.tables ev below (T144.setTop (mkF mi 228 #[.val (.int x0), .val (.int x1), .val (.int x2), .val (.int x3), .val (.int x4), .val (.int i1), .val (.int i2), .val (.int t0), .val (.int t1), .val (.int e0), .val (.int e1), .val (.int lt), .val (.int le), .val (.ref (K i1.toNatClampNeg)), .val (.ref (K i2.toNatClampNeg)), .val (.ref x_127), .val (.ref x_131), .val (.ref b134), .unset] [(.int (1 : Int32))])) _
                refine XS.goto X144.here hx rfl (pc0 := 228) (pc' := 232) rfl (hb hby at_228) (by decide) (by decide) ?_
                exact kk
              · try simp only [if_neg hm155] at kk
                show Steps pg.tables ev below (T144.setTop (mkF mi 224 #[.val (.int x0), .val (.int x1), .val (.int x2), .val (.int x3), .val (.int x4), .val (.int i1), .val (.int i2), .val (.int t0), .val (.int t1), .val (.int e0), .val (.int e1), .val (.int lt), .val (.int le), .val (.ref (K i1.toNatClampNeg)), .val (.ref (K i2.toNatClampNeg)), .val (.ref x_127), .val (.ref x_131), .val (.ref b134), .unset] [(.int e1), (.int t1)])) _
                refine XS.icmpYes X144.here hx rfl (pc0 := 224) (pc' := 231) rfl (hb hby at_224) rfl (feq hm155).2 (by decide) (by decide) ?_
                show Steps pg.tables ev below (T144.setTop (mkF mi 231 #[.val (.int x0), .val (.int x1), .val (.int x2), .val (.int x3), .val (.int x4), .val (.int i1), .val (.int i2), .val (.int t0), .val (.int t1), .val (.int e0), .val (.int e1), .val (.int lt), .val (.int le), .val (.ref (K i1.toNatClampNeg)), .val (.ref (K i2.toNatClampNeg)), .val (.ref x_127), .val (.ref x_131), .val (.ref b134), .unset] [])) _
                refine XS.iconst X144.here hx rfl (hb hby at_231) ?_
                exact kk
          · try simp only [if_neg hm153] at kk
            show Steps pg.tables ev below (T144.setTop (mkF mi 211 #[.val (.int x0), .val (.int x1), .val (.int x2), .val (.int x3), .val (.int x4), .val (.int i1), .val (.int i2), .val (.int t0), .val (.int t1), .val (.int e0), .val (.int e1), .val (.int lt), .val (.int le), .val (.ref (K i1.toNatClampNeg)), .val (.ref (K i2.toNatClampNeg)), .val (.ref x_127), .val (.ref x_131), .val (.ref b134), .unset] [(.int e0), (.int t0)])) _
            refine XS.icmpYes X144.here hx rfl (pc0 := 211) (pc' := 231) rfl (hb hby at_211) rfl (feq hm153).2 (by decide) (by decide) ?_
            show Steps pg.tables ev below (T144.setTop (mkF mi 231 #[.val (.int x0), .val (.int x1), .val (.int x2), .val (.int x3), .val (.int x4), .val (.int i1), .val (.int i2), .val (.int t0), .val (.int t1), .val (.int e0), .val (.int e1), .val (.int lt), .val (.int le), .val (.ref (K i1.toNatClampNeg)), .val (.ref (K i2.toNatClampNeg)), .val (.ref x_127), .val (.ref x_131), .val (.ref b134), .unset] [])) _
            refine XS.iconst X144.here hx rfl (hb hby at_231) ?_
            exact kk
      · try simp only [if_neg hm149] at kk
        show Steps pg.tables ev below (T144.setTop (mkF mi 198 #[.val (.int x0), .val (.int x1), .val (.int x2), .val (.int x3), .val (.int x4), .val (.int i1), .val (.int i2), .val (.int t0), .val (.int t1), .val (.int e0), .val (.int e1), .val (.int lt), .val (.int le), .val (.ref (K i1.toNatClampNeg)), .val (.ref (K i2.toNatClampNeg)), .val (.ref x_127), .val (.ref x_131), .val (.ref b134), .unset] [(.int le), (.int lt)])) _
        refine XS.icmpYes X144.here hx rfl (pc0 := 198) (pc' := 231) rfl (hb hby at_198) rfl (feq hm149).2 (by decide) (by decide) ?_
        show Steps pg.tables ev below (T144.setTop (mkF mi 231 #[.val (.int x0), .val (.int x1), .val (.int x2), .val (.int x3), .val (.int x4), .val (.int i1), .val (.int i2), .val (.int t0), .val (.int t1), .val (.int e0), .val (.int e1), .val (.int lt), .val (.int le), .val (.ref (K i1.toNatClampNeg)), .val (.ref (K i2.toNatClampNeg)), .val (.ref x_127), .val (.ref x_131), .val (.ref b134), .unset] [])) _
        refine XS.iconst X144.here hx rfl (hb hby at_231) ?_
        exact kk
    · try simp only [if_neg hm148] at kk
      show Steps pg.tables ev below (T144.setTop (mkF mi 191 #[.val (.int x0), .val (.int x1), .val (.int x2), .val (.int x3), .val (.int x4), .val (.int i1), .val (.int i2), .val (.int t0), .val (.int t1), .val (.int e0), .val (.int e1), .val (.int lt), .val (.int le), .val (.ref (K i1.toNatClampNeg)), .val (.ref (K i2.toNatClampNeg)), .val (.ref x_127), .val (.ref x_131), .val (.ref b134), .unset] [(.int i2), (.int i1)])) _
      refine XS.icmpYes X144.here hx rfl (pc0 := 191) (pc' := 231) rfl (hb hby at_191) rfl (feq hm148).2 (by decide) (by decide) ?_
      show Steps pg.tables ev below (T144.setTop (mkF mi 231 #[.val (.int x0), .val (.int x1), .val (.int x2), .val (.int x3), .val (.int x4), .val (.int i1), .val (.int i2), .val (.int t0), .val (.int t1), .val (.int e0), .val (.int e1), .val (.int lt), .val (.int le), .val (.ref (K i1.toNatClampNeg)), .val (.ref (K i2.toNatClampNeg)), .val (.ref x_127), .val (.ref x_131), .val (.ref b134), .unset] [])) _
      refine XS.iconst X144.here hx rfl (hb hby at_231) ?_
      exact kk)
  have O157 : Old Z n0 T144.heap := (O142.keep Kq144 (allS g_b134 all0))
  have ne_x_127_b134 : x_127 ≠ b134 := Nat.ne_of_lt (Nat.lt_of_lt_of_le r127_0.lt (Nat.le_trans Kq131.1 (Nat.le_of_eq q134.symm)))
  have ne_t_127_b134 : t_127 ≠ b134 := Nat.ne_of_lt (Nat.lt_of_lt_of_le r127_0.ltt (Nat.le_trans Kq131.1 (Nat.le_of_eq q134.symm)))
  have f158 : LStr Z T144.heap x_127 t_127 (strF lt t0 t1) := (((r127_0.keep Kq131 nin0 nin0).ext E134).keep Kq144 (ninS ne_x_127_b134 nin0) (ninS ne_t_127_b134 nin0))
  have ne_x_131_b134 : x_131 ≠ b134 := Nat.ne_of_lt (Nat.lt_of_lt_of_le r131_0.lt (Nat.le_trans (Nat.le_refl _) (Nat.le_of_eq q134.symm)))
  have ne_t_131_b134 : t_131 ≠ b134 := Nat.ne_of_lt (Nat.lt_of_lt_of_le r131_0.ltt (Nat.le_trans (Nat.le_refl _) (Nat.le_of_eq q134.symm)))
  have f159 : LStr Z T144.heap x_131 t_131 (strF le e0 e1) := ((r131_0.ext E134).keep Kq144 (ninS ne_x_131_b134 nin0) (ninS ne_t_131_b134 nin0))
  obtain ⟨cq160, kq160, q160a, q160b, q160c⟩ := isOf hZ rfl r144_0
  obtain ⟨v160, _, ⟨T160, L160, k160, n160⟩, -, X160, ⟨Lc160, hQ160, l160, y160, z160⟩, st160⟩ := X144.virtualBack hx (y := mn9) (z := mn9) hown (mvT hZ (wd50 hw)) (mvT hZ (wd51 hw)) (notFace_of_selects (args := #[]) (mvT hZ (wd53 hw))) (mvT hZ (wd53 hw)) (mvT hZ (wd52 hw)) (by decide) (backOf (W := 0) (rm_isc la Z a0 hw [] b134 (K i2.toNatClampNeg) x_131 (K i1.toNatClampNeg) x_127 t_127 t_131 (strF lt t0 t1) (strF le e0 e1) zc T144.heap n0 O157 r144_1 r144_2 f158 f159 D18_ (hzc : ¬ (zc = (0 : Int32)))) hZ (wd54 hw) (wd35 hw) (by decide) (by decide)) q160a q160c (g := (mkF mi 240 #[.val (.int x0), .val (.int x1), .val (.int x2), .val (.int x3), .val (.int x4), .val (.int i1), .val (.int i2), .val (.int t0), .val (.int t1), .val (.int e0), .val (.int e1), .val (.int lt), .val (.int le), .val (.ref (K i1.toNatClampNeg)), .val (.ref (K i2.toNatClampNeg)), .val (.ref x_127), .val (.ref x_131), .val (.ref b134), .val (.int (if i1 = i2 then (if lt = le then (if lt < (1 : Int32) then (if lt < (2 : Int32) then (1 : Int32) else (if t1 = e1 then (1 : Int32) else (0 : Int32))) else (if t0 = e0 then (if lt < (2 : Int32) then (1 : Int32) else (if t1 = e1 then (1 : Int32) else (0 : Int32))) else (0 : Int32))) else (0 : Int32)) else (0 : Int32)))] [(.ref x_131), (.ref (K i2.toNatClampNeg)), (.ref b134)])) rfl (by rw [hml]; rfl) (Steps.refl _) (argsL := [(.ref (K i2.toNatClampNeg)), (.ref x_131)]) (rest := []) (lenOf pd_9 rfl) rfl (by show 2 * 0 + _ ≤ _; exact Nat.le_of_eq rfl) (hb hby at_240) (fun _ _ => ⟨rfl, rfl, (by decide : 13 + 0 ≤ _), (by decide : 29 + 0 ≤ _)⟩)
  dsimp only [Pt.U, Pt.locs, Pt.cells, Pt.slots] at X160 l160 y160 z160 st160 hQ160
  subst l160 y160 z160
  obtain ⟨rfl, Nq160, ek160⟩ := hQ160
  have N160 := Fr.app N144 Nq160
  obtain ⟨fs, hr, hrun, hended, hWe⟩ := X160.leaveW hS (show _ ≤ T160.heap.size by rw [ek160]; exact (Nat.le_trans hk (Nat.le_trans E134.1 Kq144.1))) (v := some (.int (1 : Int32))) (fun hq => by rw [Bd.returns] at hq; cases hq)
  refine ⟨_, _, pre156 _ ?_, hrun, hended, _, _, rfl, ?_, ?_, hWe.1, hWe.2.1, hWe.2.2.1, hWe.2.2.2.mono (by decide) (by decide)⟩
  · show Steps pg.tables ev below (T144.setTop (mkF mi 232 #[.val (.int x0), .val (.int x1), .val (.int x2), .val (.int x3), .val (.int x4), .val (.int i1), .val (.int i2), .val (.int t0), .val (.int t1), .val (.int e0), .val (.int e1), .val (.int lt), .val (.int le), .val (.ref (K i1.toNatClampNeg)), .val (.ref (K i2.toNatClampNeg)), .val (.ref x_127), .val (.ref x_131), .val (.ref b134), .unset] [(.int (if i1 = i2 then (if lt = le then (if lt < (1 : Int32) then (if lt < (2 : Int32) then (1 : Int32) else (if t1 = e1 then (1 : Int32) else (0 : Int32))) else (if t0 = e0 then (if lt < (2 : Int32) then (1 : Int32) else (if t1 = e1 then (1 : Int32) else (0 : Int32))) else (0 : Int32))) else (0 : Int32)) else (0 : Int32)))])) _
    refine XS.istore X144.here hx rfl (hb hby at_232) rfl (l' := #[.val (.int x0), .val (.int x1), .val (.int x2), .val (.int x3), .val (.int x4), .val (.int i1), .val (.int i2), .val (.int t0), .val (.int t1), .val (.int e0), .val (.int e1), .val (.int lt), .val (.int le), .val (.ref (K i1.toNatClampNeg)), .val (.ref (K i2.toNatClampNeg)), .val (.ref x_127), .val (.ref x_131), .val (.ref b134), .val (.int (if i1 = i2 then (if lt = le then (if lt < (1 : Int32) then (if lt < (2 : Int32) then (1 : Int32) else (if t1 = e1 then (1 : Int32) else (0 : Int32))) else (if t0 = e0 then (if lt < (2 : Int32) then (1 : Int32) else (if t1 = e1 then (1 : Int32) else (0 : Int32))) else (0 : Int32))) else (0 : Int32)) else (0 : Int32)))]) rfl ?_
    show Steps pg.tables ev below (T144.setTop (mkF mi 234 #[.val (.int x0), .val (.int x1), .val (.int x2), .val (.int x3), .val (.int x4), .val (.int i1), .val (.int i2), .val (.int t0), .val (.int t1), .val (.int e0), .val (.int e1), .val (.int lt), .val (.int le), .val (.ref (K i1.toNatClampNeg)), .val (.ref (K i2.toNatClampNeg)), .val (.ref x_127), .val (.ref x_131), .val (.ref b134), .val (.int (if i1 = i2 then (if lt = le then (if lt < (1 : Int32) then (if lt < (2 : Int32) then (1 : Int32) else (if t1 = e1 then (1 : Int32) else (0 : Int32))) else (if t0 = e0 then (if lt < (2 : Int32) then (1 : Int32) else (if t1 = e1 then (1 : Int32) else (0 : Int32))) else (0 : Int32))) else (0 : Int32)) else (0 : Int32)))] [])) _
    refine XS.aload X144.here hx rfl (hb hby at_234) rfl rfl ?_
    show Steps pg.tables ev below (T144.setTop (mkF mi 236 #[.val (.int x0), .val (.int x1), .val (.int x2), .val (.int x3), .val (.int x4), .val (.int i1), .val (.int i2), .val (.int t0), .val (.int t1), .val (.int e0), .val (.int e1), .val (.int lt), .val (.int le), .val (.ref (K i1.toNatClampNeg)), .val (.ref (K i2.toNatClampNeg)), .val (.ref x_127), .val (.ref x_131), .val (.ref b134), .val (.int (if i1 = i2 then (if lt = le then (if lt < (1 : Int32) then (if lt < (2 : Int32) then (1 : Int32) else (if t1 = e1 then (1 : Int32) else (0 : Int32))) else (if t0 = e0 then (if lt < (2 : Int32) then (1 : Int32) else (if t1 = e1 then (1 : Int32) else (0 : Int32))) else (0 : Int32))) else (0 : Int32)) else (0 : Int32)))] [(.ref b134)])) _
    refine XS.aload X144.here hx rfl (hb hby at_236) rfl rfl ?_
    show Steps pg.tables ev below (T144.setTop (mkF mi 238 #[.val (.int x0), .val (.int x1), .val (.int x2), .val (.int x3), .val (.int x4), .val (.int i1), .val (.int i2), .val (.int t0), .val (.int t1), .val (.int e0), .val (.int e1), .val (.int lt), .val (.int le), .val (.ref (K i1.toNatClampNeg)), .val (.ref (K i2.toNatClampNeg)), .val (.ref x_127), .val (.ref x_131), .val (.ref b134), .val (.int (if i1 = i2 then (if lt = le then (if lt < (1 : Int32) then (if lt < (2 : Int32) then (1 : Int32) else (if t1 = e1 then (1 : Int32) else (0 : Int32))) else (if t0 = e0 then (if lt < (2 : Int32) then (1 : Int32) else (if t1 = e1 then (1 : Int32) else (0 : Int32))) else (0 : Int32))) else (0 : Int32)) else (0 : Int32)))] [(.ref (K i2.toNatClampNeg)), (.ref b134)])) _
    refine XS.aload X144.here hx rfl (hb hby at_238) rfl rfl ?_
    show Steps pg.tables ev below (T144.setTop (mkF mi 240 #[.val (.int x0), .val (.int x1), .val (.int x2), .val (.int x3), .val (.int x4), .val (.int i1), .val (.int i2), .val (.int t0), .val (.int t1), .val (.int e0), .val (.int e1), .val (.int lt), .val (.int le), .val (.ref (K i1.toNatClampNeg)), .val (.ref (K i2.toNatClampNeg)), .val (.ref x_127), .val (.ref x_131), .val (.ref b134), .val (.int (if i1 = i2 then (if lt = le then (if lt < (1 : Int32) then (if lt < (2 : Int32) then (1 : Int32) else (if t1 = e1 then (1 : Int32) else (0 : Int32))) else (if t0 = e0 then (if lt < (2 : Int32) then (1 : Int32) else (if t1 = e1 then (1 : Int32) else (0 : Int32))) else (0 : Int32))) else (0 : Int32)) else (0 : Int32)))] [(.ref x_131), (.ref (K i2.toNatClampNeg)), (.ref b134)])) _
    refine st160.trans ?_
    show Steps pg.tables ev below (T160.setTop (mkF mi 243 #[.val (.int x0), .val (.int x1), .val (.int x2), .val (.int x3), .val (.int x4), .val (.int i1), .val (.int i2), .val (.int t0), .val (.int t1), .val (.int e0), .val (.int e1), .val (.int lt), .val (.int le), .val (.ref (K i1.toNatClampNeg)), .val (.ref (K i2.toNatClampNeg)), .val (.ref x_127), .val (.ref x_131), .val (.ref b134), .val (.int (if i1 = i2 then (if lt = le then (if lt < (1 : Int32) then (if lt < (2 : Int32) then (1 : Int32) else (if t1 = e1 then (1 : Int32) else (0 : Int32))) else (if t0 = e0 then (if lt < (2 : Int32) then (1 : Int32) else (if t1 = e1 then (1 : Int32) else (0 : Int32))) else (0 : Int32))) else (0 : Int32)) else (0 : Int32)))] [(.int (if (K i1.toNatClampNeg) = (K i2.toNatClampNeg) ∧ (strF lt t0 t1) = (strF le e0 e1) then (1 : Int32) else 0))])) _
    refine XS.iload X160.here hx rfl (hb hby at_243) rfl ?_
    show Steps pg.tables ev below (T160.setTop (mkF mi 245 #[.val (.int x0), .val (.int x1), .val (.int x2), .val (.int x3), .val (.int x4), .val (.int i1), .val (.int i2), .val (.int t0), .val (.int t1), .val (.int e0), .val (.int e1), .val (.int lt), .val (.int le), .val (.ref (K i1.toNatClampNeg)), .val (.ref (K i2.toNatClampNeg)), .val (.ref x_127), .val (.ref x_131), .val (.ref b134), .val (.int (if i1 = i2 then (if lt = le then (if lt < (1 : Int32) then (if lt < (2 : Int32) then (1 : Int32) else (if t1 = e1 then (1 : Int32) else (0 : Int32))) else (if t0 = e0 then (if lt < (2 : Int32) then (1 : Int32) else (if t1 = e1 then (1 : Int32) else (0 : Int32))) else (0 : Int32))) else (0 : Int32)) else (0 : Int32)))] [(.int (if i1 = i2 then (if lt = le then (if lt < (1 : Int32) then (if lt < (2 : Int32) then (1 : Int32) else (if t1 = e1 then (1 : Int32) else (0 : Int32))) else (if t0 = e0 then (if lt < (2 : Int32) then (1 : Int32) else (if t1 = e1 then (1 : Int32) else (0 : Int32))) else (0 : Int32))) else (0 : Int32)) else (0 : Int32))), (.int (if (K i1.toNatClampNeg) = (K i2.toNatClampNeg) ∧ (strF lt t0 t1) = (strF le e0 e1) then (1 : Int32) else 0))])) _
    refine XS.icmpNo X160.here hx rfl (hb hby at_245) rfl (teq (own_final hK b_i1 b_i2 b_lt b_le)).2 ?_
    show Steps pg.tables ev below (T160.setTop (mkF mi 248 #[.val (.int x0), .val (.int x1), .val (.int x2), .val (.int x3), .val (.int x4), .val (.int i1), .val (.int i2), .val (.int t0), .val (.int t1), .val (.int e0), .val (.int e1), .val (.int lt), .val (.int le), .val (.ref (K i1.toNatClampNeg)), .val (.ref (K i2.toNatClampNeg)), .val (.ref x_127), .val (.ref x_131), .val (.ref b134), .val (.int (if i1 = i2 then (if lt = le then (if lt < (1 : Int32) then (if lt < (2 : Int32) then (1 : Int32) else (if t1 = e1 then (1 : Int32) else (0 : Int32))) else (if t0 = e0 then (if lt < (2 : Int32) then (1 : Int32) else (if t1 = e1 then (1 : Int32) else (0 : Int32))) else (0 : Int32))) else (0 : Int32)) else (0 : Int32)))] [])) _
    refine XS.iconst X160.here hx rfl (hb hby at_248) ?_
    show Steps pg.tables ev below (T160.setTop (mkF mi 249 #[.val (.int x0), .val (.int x1), .val (.int x2), .val (.int x3), .val (.int x4), .val (.int i1), .val (.int i2), .val (.int t0), .val (.int t1), .val (.int e0), .val (.int e1), .val (.int lt), .val (.int le), .val (.ref (K i1.toNatClampNeg)), .val (.ref (K i2.toNatClampNeg)), .val (.ref x_127), .val (.ref x_131), .val (.ref b134), .val (.int (if i1 = i2 then (if lt = le then (if lt < (1 : Int32) then (if lt < (2 : Int32) then (1 : Int32) else (if t1 = e1 then (1 : Int32) else (0 : Int32))) else (if t0 = e0 then (if lt < (2 : Int32) then (1 : Int32) else (if t1 = e1 then (1 : Int32) else (0 : Int32))) else (0 : Int32))) else (0 : Int32)) else (0 : Int32)))] [(.int (1 : Int32))])) _
    refine XS.goto X160.here hx rfl (pc0 := 249) (pc' := 253) rfl (hb hby at_249) (by decide) (by decide) ?_
    show Steps pg.tables ev below (T160.setTop (mkF mi 253 #[.val (.int x0), .val (.int x1), .val (.int x2), .val (.int x3), .val (.int x4), .val (.int i1), .val (.int i2), .val (.int t0), .val (.int t1), .val (.int e0), .val (.int e1), .val (.int lt), .val (.int le), .val (.ref (K i1.toNatClampNeg)), .val (.ref (K i2.toNatClampNeg)), .val (.ref x_127), .val (.ref x_131), .val (.ref b134), .val (.int (if i1 = i2 then (if lt = le then (if lt < (1 : Int32) then (if lt < (2 : Int32) then (1 : Int32) else (if t1 = e1 then (1 : Int32) else (0 : Int32))) else (if t0 = e0 then (if lt < (2 : Int32) then (1 : Int32) else (if t1 = e1 then (1 : Int32) else (0 : Int32))) else (0 : Int32))) else (0 : Int32)) else (0 : Int32)))] [(.int (1 : Int32))])) _
    exact retN X160 hx (t := .boolean) Bd.returns (by simp) (hb hby at_253) hr
  · show Q_law Z x0 x1 x2 x3 x4 K zc hE n0 _ T160.heap _
    rw [ek160]
    exact ⟨rfl, N160⟩
  · show CHr Z ELs sb.vm sb.heap T160.vm T160.heap
    rw [hh, ek160]
    exact CHr.trans C146 (CHv.at X160 hZ hEL C146.1)
theorem own_cz {args : Array Value} {s : State} {iz : Int32} (ez : (Term.static "java/lang/String" "COMPACT_STRINGS" "Z").eval args s none [] s = some (.int iz)) (h : (Jvm.Cond.not (.eq (.static "java/lang/String" "COMPACT_STRINGS" "Z") (.int (0 : Int32)))).before args s = true) : ¬ (iz = (0 : Int32)) := fun q => by
  have h9 := not_v (Cond.before_iff.mp h)
  rw [eq_i ez (Term.int_eval (0 : Int32)) (by rw [q])] at h9
  exact absurd h9 (by simp)
set_option maxRecDepth 65536 in
set_option maxHeartbeats 40000000 in
theorem comes_1 {Post : Tables → Env → Array Value → State → Outcome → State → Prop} (hpost : ∀ tb e args s v u, (limb_1_1.after args s (.returned v) u = true ∧ limb_1_2.after args s (.returned v) u = true ∧ True) → ReturnedEndW s (.returned v) u (Jvm.fieldLocs frame_1_writes args s ++ Jvm.arrayLocs frame_1_arrays args s ++ Jvm.staticLocs frame_1_statics s) 24 1152 → Post tb e args s (.returned v) u) :
    ArmFor flags0 classFile x code maxLocals ret World_1 tables_1 room_1 Calls_1 rest_1 Pre_1 Post := by
  intro l hfl _ _ p e ha hcf hk s m args below hf hA hF happ hP
  obtain ⟨hcalls, hrest, hpre⟩ := hP
  obtain ⟨-, -, -, hnamed, -, -, -, hat⟩ := (Spec.applies_iff hf).mp happ
  obtain ⟨hg, hn⟩ := and_e (Cond.before_iff.mp (show (Jvm.Cond.and given_1 narrow_1).before args s = true from hpre))
  obtain ⟨hcnt, hg⟩ := and_e hg
  obtain ⟨ha0, hg⟩ := and_e hg
  obtain ⟨ha1, hg⟩ := and_e hg
  obtain ⟨ha2, hg⟩ := and_e hg
  obtain ⟨ha3, hg⟩ := and_e hg
  have ha4 := hg
  obtain ⟨w0, w1, w2, w3, w4, rfl⟩ : ∃ w0 w1 w2 w3 w4 : Value, args = #[w0, w1, w2, w3, w4] := by
    have hs : args.size = 5 := by simpa [Cond.value, given_1] using hcnt
    obtain ⟨L⟩ := args
    match L, hs with
    | [w0, w1, w2, w3, w4], _ => exact ⟨w0, w1, w2, w3, w4, rfl⟩
  have hw := fun d (hd : d ∈ tables_1) => atoms_spec (ws := Jvm.Cond.code x code maxLocals ret :: tables_1) hat d (List.mem_cons_of_mem _ hd)
  have hfit : Fit s := fun {y c} hc i hi => by
    obtain ⟨ha, rfl⟩ := Array.getElem?_eq_some_iff.mp hc
    have q := List.all_eq_true.mp ((Array.all_eq_true_iff_forall_mem.mp hF) _ (Array.getElem_mem ha)) i (List.mem_range.mpr hi)
    simpa [Array.getElem?_eq_getElem hi] using q
  obtain ⟨hsets, hown0⟩ := atoms_of _ (rest_1_c_eq ▸ (show rest_1_c.before _ s = true from hrest))
  obtain ⟨i0, ei0⟩ := is_v ha0
  obtain rfl : w0 = (.int i0) := Option.some.inj ei0
  obtain ⟨i1, ei1⟩ := is_v ha1
  obtain rfl : w1 = (.int i1) := Option.some.inj ei1
  obtain ⟨i2, ei2⟩ := is_v ha2
  obtain rfl : w2 = (.int i2) := Option.some.inj ei2
  obtain ⟨i3, ei3⟩ := is_v ha3
  obtain rfl : w3 = (.int i3) := Option.some.inj ei3
  obtain ⟨i4, ei4⟩ := is_v ha4
  obtain rfl : w4 = (.int i4) := Option.some.inj ei4
  obtain ⟨hn_0, hn⟩ := and_e hn
  obtain ⟨hn_1, hn⟩ := and_e hn
  obtain ⟨hn_2, hn⟩ := and_e hn
  obtain ⟨hn_3, hn⟩ := and_e hn
  obtain ⟨hn_4, hn⟩ := and_e hn
  obtain ⟨hn_5, hn⟩ := and_e hn
  obtain ⟨hn_6, hn⟩ := and_e hn
  obtain ⟨hn_7, hn⟩ := and_e hn
  obtain ⟨hn_8, hn⟩ := and_e hn
  obtain ⟨hn_9, hn⟩ := and_e hn
  obtain ⟨hn_10, hn⟩ := and_e hn
  obtain ⟨hn_11, hn⟩ := and_e hn
  obtain ⟨hn_12, hn⟩ := and_e hn
  obtain ⟨hn_13, hn⟩ := and_e hn
  obtain ⟨hn_14, hn⟩ := and_e hn
  obtain ⟨hn_15, hn⟩ := and_e hn
  obtain ⟨hn_16, hn⟩ := and_e hn
  obtain ⟨hn_17, hn⟩ := and_e hn
  obtain ⟨hn_18, hn⟩ := and_e hn
  obtain ⟨hn_19, hn⟩ := and_e hn
  obtain ⟨hn_20, hn⟩ := and_e hn
  obtain ⟨hn_21, hn⟩ := and_e hn
  obtain ⟨hn_22, hn⟩ := and_e hn
  obtain ⟨hn_23, hn⟩ := and_e hn
  obtain ⟨hn_24, hn⟩ := and_e hn
  obtain ⟨hn_25, hn⟩ := and_e hn
  obtain ⟨hn_26, hn⟩ := and_e hn
  obtain ⟨hn_27, hn⟩ := and_e hn
  obtain ⟨hn_28, hn⟩ := and_e hn
  obtain ⟨hn_29, hn⟩ := and_e hn
  obtain ⟨hn_30, hn⟩ := and_e hn
  obtain ⟨hn_31, hn⟩ := and_e hn
  obtain ⟨hn_32, hn⟩ := and_e hn
  obtain ⟨hn_33, hn⟩ := and_e hn
  obtain ⟨hn_34, hn⟩ := and_e hn
  have hn_35 := hn
  obtain ⟨k0, ek0⟩ := exa_v hn_0
  have sk0 := Sta.start ek0 (Or.inr ⟨(wd6 hw), (wd7 hw)⟩)
  have fk0 := Fld.start ((fld_at ek0).symm.trans (Cond.eq_int (Cond.before_iff.mpr hn_10) rfl))
  obtain ⟨k1, ek1⟩ := exa_v hn_16
  have sk1 := Sta.start ek1 (Or.inr ⟨(wd6 hw), (wd93 hw)⟩)
  have fk1 := Fld.start ((fld_at ek1).symm.trans (Cond.eq_int (Cond.before_iff.mpr hn_18) rfl))
  obtain ⟨k2, ek2⟩ := exa_v hn_24
  have sk2 := Sta.start ek2 (Or.inr ⟨(wd6 hw), (wd101 hw)⟩)
  have fk2 := Fld.start ((fld_at ek2).symm.trans (Cond.eq_int (Cond.before_iff.mpr hn_26) rfl))
  obtain ⟨k3, ek3⟩ := exa_v hn_1
  have sk3 := Sta.start ek3 (Or.inr ⟨(wd6 hw), (wd67 hw)⟩)
  have fk3 := Fld.start ((fld_at ek3).symm.trans (Cond.eq_int (Cond.before_iff.mpr hn_5) rfl))
  obtain ⟨k4, ek4⟩ := exa_v hn_3
  have sk4 := Sta.start ek4 (Or.inr ⟨(wd6 hw), (wd71 hw)⟩)
  have fk4 := Fld.start ((fld_at ek4).symm.trans (Cond.eq_int (Cond.before_iff.mpr hn_4) rfl))
  obtain ⟨k5, ek5⟩ := exa_v hn_27
  have sk5 := Sta.start ek5 (Or.inr ⟨(wd6 hw), (wd105 hw)⟩)
  have fk5 := Fld.start ((fld_at ek5).symm.trans (Cond.eq_int (Cond.before_iff.mpr hn_29) rfl))
  obtain ⟨k6, ek6⟩ := exa_v hn_20
  have sk6 := Sta.start ek6 (Or.inr ⟨(wd6 hw), (wd97 hw)⟩)
  have fk6 := Fld.start ((fld_at ek6).symm.trans (Cond.eq_int (Cond.before_iff.mpr hn_21) rfl))
  obtain ⟨k7, ek7⟩ := exa_v hn_8
  have sk7 := Sta.start ek7 (Or.inr ⟨(wd6 hw), (wd85 hw)⟩)
  have fk7 := Fld.start ((fld_at ek7).symm.trans (Cond.eq_int (Cond.before_iff.mpr hn_9) rfl))
  obtain ⟨k8, ek8⟩ := exa_v hn_2
  have sk8 := Sta.start ek8 (Or.inr ⟨(wd6 hw), (wd69 hw)⟩)
  have fk8 := Fld.start ((fld_at ek8).symm.trans (Cond.eq_int (Cond.before_iff.mpr hn_30) rfl))
  obtain ⟨k9, ek9⟩ := exa_v hn_17
  have sk9 := Sta.start ek9 (Or.inr ⟨(wd6 hw), (wd95 hw)⟩)
  have fk9 := Fld.start ((fld_at ek9).symm.trans (Cond.eq_int (Cond.before_iff.mpr hn_19) rfl))
  obtain ⟨k10, ek10⟩ := exa_v hn_15
  have sk10 := Sta.start ek10 (Or.inr ⟨(wd6 hw), (wd91 hw)⟩)
  have fk10 := Fld.start ((fld_at ek10).symm.trans (Cond.eq_int (Cond.before_iff.mpr hn_32) rfl))
  obtain ⟨k11, ek11⟩ := exa_v hn_33
  have sk11 := Sta.start ek11 (Or.inr ⟨(wd6 hw), (wd109 hw)⟩)
  have fk11 := Fld.start ((fld_at ek11).symm.trans (Cond.eq_int (Cond.before_iff.mpr hn_34) rfl))
  obtain ⟨k12, ek12⟩ := exa_v hn_12
  have sk12 := Sta.start ek12 (Or.inr ⟨(wd6 hw), (wd89 hw)⟩)
  have fk12 := Fld.start ((fld_at ek12).symm.trans (Cond.eq_int (Cond.before_iff.mpr hn_14) rfl))
  obtain ⟨k13, ek13⟩ := exa_v hn_22
  have sk13 := Sta.start ek13 (Or.inr ⟨(wd6 hw), (wd99 hw)⟩)
  have fk13 := Fld.start ((fld_at ek13).symm.trans (Cond.eq_int (Cond.before_iff.mpr hn_23) rfl))
  obtain ⟨k14, ek14⟩ := exa_v hn_25
  have sk14 := Sta.start ek14 (Or.inr ⟨(wd6 hw), (wd103 hw)⟩)
  have fk14 := Fld.start ((fld_at ek14).symm.trans (Cond.eq_int (Cond.before_iff.mpr hn_28) rfl))
  obtain ⟨k15, ek15⟩ := exa_v hn_6
  have sk15 := Sta.start ek15 (Or.inr ⟨(wd6 hw), (wd83 hw)⟩)
  have fk15 := Fld.start ((fld_at ek15).symm.trans (Cond.eq_int (Cond.before_iff.mpr hn_7) rfl))
  obtain ⟨k16, ek16⟩ := exa_v hn_11
  have sk16 := Sta.start ek16 (Or.inr ⟨(wd6 hw), (wd87 hw)⟩)
  have fk16 := Fld.start ((fld_at ek16).symm.trans (Cond.eq_int (Cond.before_iff.mpr hn_13) rfl))
  obtain ⟨k17, ek17⟩ := exa_v hn_31
  have sk17 := Sta.start ek17 (Or.inr ⟨(wd6 hw), (wd107 hw)⟩)
  have fk17 := Fld.start ((fld_at ek17).symm.trans (Cond.eq_int (Cond.before_iff.mpr hn_35) rfl))
  obtain ⟨K, hKd⟩ : ∃ K : Nat → Addr, K = fun n => match n with | 0 => k0 | 1 => k1 | 2 => k2 | 3 => k3 | 4 => k4 | 5 => k5 | 6 => k6 | 7 => k7 | 8 => k8 | 9 => k9 | 10 => k10 | 11 => k11 | 12 => k12 | 13 => k13 | 14 => k14 | 15 => k15 | 16 => k16 | 17 => k17 | _ => 0 := ⟨_, rfl⟩
  have q0 : K 0 = k0 := congrFun hKd 0
  have q1 : K 1 = k1 := congrFun hKd 1
  have q2 : K 2 = k2 := congrFun hKd 2
  have q3 : K 3 = k3 := congrFun hKd 3
  have q4 : K 4 = k4 := congrFun hKd 4
  have q5 : K 5 = k5 := congrFun hKd 5
  have q6 : K 6 = k6 := congrFun hKd 6
  have q7 : K 7 = k7 := congrFun hKd 7
  have q8 : K 8 = k8 := congrFun hKd 8
  have q9 : K 9 = k9 := congrFun hKd 9
  have q10 : K 10 = k10 := congrFun hKd 10
  have q11 : K 11 = k11 := congrFun hKd 11
  have q12 : K 12 = k12 := congrFun hKd 12
  have q13 : K 13 = k13 := congrFun hKd 13
  have q14 : K 14 = k14 := congrFun hKd 14
  have q15 : K 15 = k15 := congrFun hKd 15
  have q16 : K 16 = k16 := congrFun hKd 16
  have q17 : K 17 = k17 := congrFun hKd 17
  have hfK : ∀ j, j < 18 → Fld s s.heap (K j) "java/lang/Enum" "ordinal" "I" (.int (Int32.ofNat j)) := fun j hj => by
    have hh : j = 0 ∨ j = 1 ∨ j = 2 ∨ j = 3 ∨ j = 4 ∨ j = 5 ∨ j = 6 ∨ j = 7 ∨ j = 8 ∨ j = 9 ∨ j = 10 ∨ j = 11 ∨ j = 12 ∨ j = 13 ∨ j = 14 ∨ j = 15 ∨ j = 16 ∨ j = 17 := by omega
    rcases hh with rfl | rfl | rfl | rfl | rfl | rfl | rfl | rfl | rfl | rfl | rfl | rfl | rfl | rfl | rfl | rfl | rfl | rfl
    · rw [q0]; exact fk0
    · rw [q1]; exact fk1
    · rw [q2]; exact fk2
    · rw [q3]; exact fk3
    · rw [q4]; exact fk4
    · rw [q5]; exact fk5
    · rw [q6]; exact fk6
    · rw [q7]; exact fk7
    · rw [q8]; exact fk8
    · rw [q9]; exact fk9
    · rw [q10]; exact fk10
    · rw [q11]; exact fk11
    · rw [q12]; exact fk12
    · rw [q13]; exact fk13
    · rw [q14]; exact fk14
    · rw [q15]; exact fk15
    · rw [q16]; exact fk16
    · rw [q17]; exact fk17
  have hKi : ∀ a b, a < 18 → b < 18 → K a = K b → a = b := fun a b ha hb q => by
    by_cases e : a = b
    · exact e
    · exact absurd q (Fld.ne (hfK a ha) (hfK b hb) (fun z => e (by
        have := congrArg Int32.toInt (Value.int.inj z)
        rw [Int32.toInt_ofNat_small (by omega), Int32.toInt_ofNat_small (by omega)] at this; omega)))
  have hset := fun i (c : Jvm.Cond) (h : jdkStatics_1[i]? = some c) => hsets c (List.mem_of_getElem? h)
  obtain ⟨iz, ez⟩ := is_v (Cond.before_iff.mp (hset 1 _ rfl))
  have sz := Sta.start ez (Or.inl (hset 0 _ rfl))
  have hz : ¬ (iz = (0 : Int32)) := own_cz ez (hset 2 _ rfl)
  have hCH : CHv s ELs s.vm s.heap := CHv.start (own_EW hw) (fun p hp => hcalls.1 p ((by decide : ∀ p ∈ ELs, p ∈ consts_1) p hp)) (hset 2 _ rfl) (wd26 hw) (wd12 hw)
  obtain ⟨n, o, h1, h2, h3, _, L, rfl, ⟨rfl, N⟩, -, hq⟩ := rm_law l s _ hw tables_1 i0 i1 i2 i3 i4 K iz s.heap s.heap.size (Old.start s) (by rw [q0]; exact sk0) (by rw [q1]; exact sk1) (by rw [q2]; exact sk2) (by rw [q3]; exact sk3) (by rw [q4]; exact sk4) (by rw [q5]; exact sk5) (by rw [q6]; exact sk6) (by rw [q7]; exact sk7) (by rw [q8]; exact sk8) (by rw [q9]; exact sk9) (by rw [q10]; exact sk10) (by rw [q11]; exact sk11) (by rw [q12]; exact sk12) (by rw [q13]; exact sk13) (by rw [q14]; exact sk14) (by rw [q15]; exact sk15) (by rw [q16]; exact sk16) (by rw [q17]; exact sk17) sz hKi hz p e ha hcf hk s m _ below hf ((Spec.applies_iff_loose hf).mp happ).1 ⟨rfl, State.Warmed39.refl s, rfl, hCH⟩ trivial
  refine ⟨n, _, h1, h2, h3, hpost _ _ _ _ _ _ ⟨Cond.after_iff.mpr rfl, Cond.after_iff.mpr (eq_i res_at (Term.int_eval (1)) rfl), trivial⟩ ⟨hq.1, hq.2.1, hq.2.2.1, (hq.2.2.2.sift fun y hy => Or.inr (N y hy)).mono (by decide) (by decide)⟩⟩
theorem main_1_1 : Claimed_1_1 := comes_1 fun _ _ _ _ _ _ h hF => ⟨h.1, hF⟩
theorem main_1_2 : Claimed_1_2 := comes_1 fun _ _ _ _ _ _ h hF => ⟨h.2.1, hF⟩

end Jvm.Pilot.@@N@@
namespace Jvm.Pilot.@@N@@
open Jvm Jvm.ClassFile Sem Op Lib Jvm.Free Jvm.Stand Jvm.Pilot.@@N@@.Jvm.D
/-! MADE BY PROGRAM (witnessworld.py) out of the Statement's table words and the real class files: 22 classes; the members and pool entries that the words name. The judged class is class 1, her method 3. -/
namespace start1
open Jvm.ClassFile
def u (s : String) : CpInfo := .utf8 (stringToUtf16 s)
/-- a pool by its gaps: so many unusable entries, then the entry; so many at the end -/
def gap : Nat → List CpInfo → List CpInfo
  | 0, r => r
  | n + 1, r => .unusable :: gap n r
def poolList (es : List (Nat × CpInfo)) (last : Nat) : List CpInfo := es.foldr (fun e r => gap e.1 (e.2 :: r)) (gap last [])
def pool (es : List (Nat × CpInfo)) (last : Nat) : Array CpInfo := ⟨poolList es last⟩
def fileOf (pool : Array CpInfo) (this : Nat) (attrs : Array Attribute := #[]) (ms : Array MethodInfo := #[]) (fl : Nat := 33) (sup : Nat := 0) (ifs : Array Nat := #[]) (fds : Array FieldInfo := #[]) : ClassFile where
  minorVersion := 0
  majorVersion := 65
  constantPool := pool
  accessFlags := fl
  thisClass := this
  superClass := sup
  interfaces := ifs
  fields := fds
  methods := ms
  attributes := attrs
def plain (name : String) (sup : Option ClassId) : Class where
  name := name
  kind := .ordinary
  loader := none
  accessFlags := 33
  super := sup
  interfaces := #[]
  cf := none
  fields := #[]
  methods := #[]
  instanceTypes := #[]
  staticTypes := #[]
  resolved := #[]
  callSites := []
  init := .initialized
  statics := none
  mirror := none

def pool0 : Array CpInfo := pool [(5, u "<init>"), (0, u "()V"), (1, .class_ 10), (1, u "java/lang/Object")] 113

def k0c0 : Code := { maxStack := 0, maxLocals := 1, code := object_method_1_code, exceptionTable := #[], attributes := #[] }
def k0m0 : Method := { name := "<init>", desc := "()V", sig := { parameters := [], returnType := none }, accessFlags := 1, code := some k0c0 }
/-- java/lang/Object -/
def k0 : Class := { plain "java/lang/Object" none with
  accessFlags := 33
  interfaces := #[]
  cf := some (fileOf pool0 8 #[] #[{ accessFlags := 1, nameIndex := 5, descriptorIndex := 6, attributes := #[] }] 33 0 #[] #[])
  fields := #[]
  methods := #[k0m0]
  instanceTypes := #[]
  staticTypes := #[]
  resolved := Array.replicate 124 none
  statics := none }

def pool1 : Array CpInfo := pool [(2, .class_ 4), (1, u "java/lang/Object"), (0, u "<init>"), (0, u "()V"), (0, .fieldref 8 9), (0, .class_ 10), (0, .nameAndType 11 12), (0, u "com/example/endless_runs/endlessruns/hoa/HoaLexer$Kind"), (0, u "HEADER_NAME"), (0, u "Lcom/example/endless_runs/endlessruns/hoa/HoaLexer$Kind;"), (0, .fieldref 8 14), (0, .nameAndType 15 12), (0, u "IDENTIFIER"), (0, .fieldref 8 17), (0, .nameAndType 18 12), (0, u "INTEGER"), (0, .fieldref 8 20), (0, .nameAndType 21 12), (0, u "STRING"), (0, .fieldref 8 23), (0, .nameAndType 24 12), (0, u "ALIAS"), (0, .fieldref 8 26), (0, .nameAndType 27 12), (0, u "NOT"), (0, .fieldref 8 29), (0, .nameAndType 30 12), (0, u "AND"), (0, .fieldref 8 32), (0, .nameAndType 33 12), (0, u "OR"), (0, .fieldref 8 35), (0, .nameAndType 36 12), (0, u "LEFT_PAREN"), (0, .fieldref 8 38), (0, .nameAndType 39 12), (0, u "RIGHT_PAREN"), (0, .fieldref 8 41), (0, .nameAndType 42 12), (0, u "LEFT_BRACKET"), (0, .fieldref 8 44), (0, .nameAndType 45 12), (0, u "RIGHT_BRACKET"), (0, .fieldref 8 47), (0, .nameAndType 48 12), (0, u "LEFT_BRACE"), (0, .fieldref 8 50), (0, .nameAndType 51 12), (0, u "RIGHT_BRACE"), (0, .fieldref 8 53), (0, .nameAndType 54 12), (0, u "BODY"), (0, .fieldref 8 56), (0, .nameAndType 57 12), (0, u "END"), (0, .fieldref 8 59), (0, .nameAndType 60 12), (0, u "ABORT"), (0, .fieldref 8 62), (0, .nameAndType 63 12), (0, u "END_OF_INPUT"), (0, .class_ 65), (0, u "java/lang/String"), (0, .methodref 64 67), (0, .nameAndType 5 68), (0, u "([C)V"), (0, .integer 2147483647), (0, .methodref 71 72), (0, .class_ 73), (0, .nameAndType 74 75), (0, u "com/example/endless_runs/endlessruns/hoa/TokenIsPinLaw"), (0, u "kindOf"), (0, u "(I)Lcom/example/endless_runs/endlessruns/hoa/HoaLexer$Kind;"), (0, .methodref 71 77), (0, .nameAndType 78 79), (0, u "str"), (0, u "(ICC)Ljava/lang/String;"), (0, .class_ 81), (0, u "com/example/endless_runs/endlessruns/hoa/HoaLexer$Token"), (0, .methodref 80 83), (0, .nameAndType 5 84), (0, u "(Lcom/example/endless_runs/endlessruns/hoa/HoaLexer$Kind;Ljava/lang/String;III)V"), (0, .methodref 80 86), (0, .nameAndType 87 88), (0, u "is"), (0, u "(Lcom/example/endless_runs/endlessruns/hoa/HoaLexer$Kind;Ljava/lang/String;)Z"), (3, u "law"), (0, u "(IIIII)Z")] 7

def k1m0 : Method := { name := "<init>", desc := "()V", sig := { parameters := [], returnType := none }, accessFlags := 1, code := none }
def k1c1 : Code := { maxStack := 2, maxLocals := 1, code := method_2_code, exceptionTable := #[], attributes := #[] }
def k1m1 : Method := { name := "kindOf", desc := "(I)Lcom/example/endless_runs/endlessruns/hoa/HoaLexer$Kind;", sig := { parameters := [.int], returnType := some (.object "com/example/endless_runs/endlessruns/hoa/HoaLexer$Kind") }, accessFlags := 10, code := some k1c1 }
def k1c2 : Code := { maxStack := 6, maxLocals := 3, code := method_3_code, exceptionTable := #[], attributes := #[] }
def k1m2 : Method := { name := "str", desc := "(ICC)Ljava/lang/String;", sig := { parameters := [.int, .char, .char], returnType := some (.object "java/lang/String") }, accessFlags := 10, code := some k1c2 }
def k1c3 : Code := { maxStack := 8, maxLocals := 19, code := code, exceptionTable := #[], attributes := #[] }
def k1m3 : Method := { name := "law", desc := "(IIIII)Z", sig := { parameters := [.int, .int, .int, .int, .int], returnType := some .boolean }, accessFlags := 9, code := some k1c3 }
/-- com/example/endless_runs/endlessruns/hoa/TokenIsPinLaw -/
def k1 : Class := { plain "com/example/endless_runs/endlessruns/hoa/TokenIsPinLaw" (some 0) with
  accessFlags := 49
  interfaces := #[]
  cf := some (fileOf pool1 71 #[] #[{ accessFlags := 1, nameIndex := 5, descriptorIndex := 6, attributes := #[] }, { accessFlags := 10, nameIndex := 74, descriptorIndex := 75, attributes := #[] }, { accessFlags := 10, nameIndex := 78, descriptorIndex := 79, attributes := #[] }, { accessFlags := 9, nameIndex := 92, descriptorIndex := 93, attributes := #[] }] 49 2 #[] #[])
  fields := #[]
  methods := #[k1m0, k1m1, k1m2, k1m3]
  instanceTypes := #[]
  staticTypes := #[]
  resolved := Array.replicate 101 none
  statics := none }

def pool2 : Array CpInfo := pool [(1, .class_ 2), (0, u "java/lang/constant/Constable"), (0, .class_ 4), (0, u "java/lang/Object")] 6

/-- java/lang/constant/Constable -/
def k2 : Class := { plain "java/lang/constant/Constable" (some 0) with
  accessFlags := 1537
  interfaces := #[]
  cf := some (fileOf pool2 1 #[] #[] 1537 3 #[] #[])
  fields := #[]
  methods := #[]
  instanceTypes := #[]
  staticTypes := #[]
  resolved := Array.replicate 11 none
  statics := none }

def pool3 : Array CpInfo := pool [(1, .class_ 2), (0, u "java/lang/Comparable"), (0, .class_ 4), (0, u "java/lang/Object")] 7

/-- java/lang/Comparable -/
def k3 : Class := { plain "java/lang/Comparable" (some 0) with
  accessFlags := 1537
  interfaces := #[]
  cf := some (fileOf pool3 1 #[] #[] 1537 3 #[] #[])
  fields := #[]
  methods := #[]
  instanceTypes := #[]
  staticTypes := #[]
  resolved := Array.replicate 12 none
  statics := none }

def pool4 : Array CpInfo := pool [(1, .class_ 2), (0, u "java/io/Serializable"), (0, .class_ 4), (0, u "java/lang/Object")] 2

/-- java/io/Serializable -/
def k4 : Class := { plain "java/io/Serializable" (some 0) with
  accessFlags := 1537
  interfaces := #[]
  cf := some (fileOf pool4 1 #[] #[] 1537 3 #[] #[])
  fields := #[]
  methods := #[]
  instanceTypes := #[]
  staticTypes := #[]
  resolved := Array.replicate 7 none
  statics := none }

def pool5 : Array CpInfo := pool [(2, .class_ 4), (1, u "java/lang/Enum"), (0, u "name"), (0, u "Ljava/lang/String;"), (2, u "ordinal"), (0, u "I"), (1, .class_ 14), (1, u "java/lang/Object"), (4, u "hash"), (86, .class_ 108), (1, u "java/lang/Enum$EnumDesc"), (2, .class_ 112), (0, u "java/lang/constant/Constable"), (0, .class_ 114), (0, u "java/lang/Comparable"), (0, .class_ 116), (0, u "java/io/Serializable")] 87

/-- java/lang/Enum -/
def k5 : Class := { plain "java/lang/Enum" (some 0) with
  accessFlags := 1057
  interfaces := #[2, 3, 4]
  cf := some (fileOf pool5 2 #[.nestMembers #[106]] #[] 1057 12 #[111, 113, 115] #[{ accessFlags := 18, nameIndex := 5, descriptorIndex := 6, attributes := #[] }, { accessFlags := 18, nameIndex := 9, descriptorIndex := 10, attributes := #[] }, { accessFlags := 2, nameIndex := 19, descriptorIndex := 10, attributes := #[] }])
  fields := #[{ name := "name", type := (.object "java/lang/String"), accessFlags := 18, slot := 0, constantValue := 0 }, { name := "ordinal", type := .int, accessFlags := 18, slot := 1, constantValue := 0 }, { name := "hash", type := .int, accessFlags := 2, slot := 2, constantValue := 0 }]
  methods := #[]
  instanceTypes := #[(.object "java/lang/String"), .int, .int]
  staticTypes := #[]
  resolved := Array.replicate 204 none
  statics := none }

def pool6 : Array CpInfo := pool [(1, .class_ 2), (0, u "com/example/endless_runs/endlessruns/hoa/HoaLexer$Kind"), (2, u "HEADER_NAME"), (0, u "Lcom/example/endless_runs/endlessruns/hoa/HoaLexer$Kind;"), (2, u "IDENTIFIER"), (2, u "INTEGER"), (2, u "STRING"), (2, u "ALIAS"), (2, u "NOT"), (2, u "AND"), (2, u "OR"), (2, u "LEFT_PAREN"), (2, u "RIGHT_PAREN"), (2, u "LEFT_BRACKET"), (2, u "RIGHT_BRACKET"), (2, u "LEFT_BRACE"), (2, u "RIGHT_BRACE"), (2, u "BODY"), (2, u "END"), (2, u "ABORT"), (2, u "END_OF_INPUT"), (2, u "$VALUES"), (0, u "[Lcom/example/endless_runs/endlessruns/hoa/HoaLexer$Kind;"), (6, .class_ 70), (1, u "java/lang/Enum"), (41, .class_ 113), (0, u "com/example/endless_runs/endlessruns/hoa/HoaLexer")] 2

/-- com/example/endless_runs/endlessruns/hoa/HoaLexer$Kind -/
def k6 : Class := { plain "com/example/endless_runs/endlessruns/hoa/HoaLexer$Kind" (some 5) with
  accessFlags := 16432
  interfaces := #[]
  cf := some (fileOf pool6 1 #[.nestHost 112] #[] 16432 68 #[] #[{ accessFlags := 16409, nameIndex := 5, descriptorIndex := 6, attributes := #[] }, { accessFlags := 16409, nameIndex := 9, descriptorIndex := 6, attributes := #[] }, { accessFlags := 16409, nameIndex := 12, descriptorIndex := 6, attributes := #[] }, { accessFlags := 16409, nameIndex := 15, descriptorIndex := 6, attributes := #[] }, { accessFlags := 16409, nameIndex := 18, descriptorIndex := 6, attributes := #[] }, { accessFlags := 16409, nameIndex := 21, descriptorIndex := 6, attributes := #[] }, { accessFlags := 16409, nameIndex := 24, descriptorIndex := 6, attributes := #[] }, { accessFlags := 16409, nameIndex := 27, descriptorIndex := 6, attributes := #[] }, { accessFlags := 16409, nameIndex := 30, descriptorIndex := 6, attributes := #[] }, { accessFlags := 16409, nameIndex := 33, descriptorIndex := 6, attributes := #[] }, { accessFlags := 16409, nameIndex := 36, descriptorIndex := 6, attributes := #[] }, { accessFlags := 16409, nameIndex := 39, descriptorIndex := 6, attributes := #[] }, { accessFlags := 16409, nameIndex := 42, descriptorIndex := 6, attributes := #[] }, { accessFlags := 16409, nameIndex := 45, descriptorIndex := 6, attributes := #[] }, { accessFlags := 16409, nameIndex := 48, descriptorIndex := 6, attributes := #[] }, { accessFlags := 16409, nameIndex := 51, descriptorIndex := 6, attributes := #[] }, { accessFlags := 16409, nameIndex := 54, descriptorIndex := 6, attributes := #[] }, { accessFlags := 16409, nameIndex := 57, descriptorIndex := 6, attributes := #[] }, { accessFlags := 4122, nameIndex := 60, descriptorIndex := 61, attributes := #[] }])
  fields := #[{ name := "HEADER_NAME", type := (.object "com/example/endless_runs/endlessruns/hoa/HoaLexer$Kind"), accessFlags := 16409, slot := 0, constantValue := 0 }, { name := "IDENTIFIER", type := (.object "com/example/endless_runs/endlessruns/hoa/HoaLexer$Kind"), accessFlags := 16409, slot := 1, constantValue := 0 }, { name := "INTEGER", type := (.object "com/example/endless_runs/endlessruns/hoa/HoaLexer$Kind"), accessFlags := 16409, slot := 2, constantValue := 0 }, { name := "STRING", type := (.object "com/example/endless_runs/endlessruns/hoa/HoaLexer$Kind"), accessFlags := 16409, slot := 3, constantValue := 0 }, { name := "ALIAS", type := (.object "com/example/endless_runs/endlessruns/hoa/HoaLexer$Kind"), accessFlags := 16409, slot := 4, constantValue := 0 }, { name := "NOT", type := (.object "com/example/endless_runs/endlessruns/hoa/HoaLexer$Kind"), accessFlags := 16409, slot := 5, constantValue := 0 }, { name := "AND", type := (.object "com/example/endless_runs/endlessruns/hoa/HoaLexer$Kind"), accessFlags := 16409, slot := 6, constantValue := 0 }, { name := "OR", type := (.object "com/example/endless_runs/endlessruns/hoa/HoaLexer$Kind"), accessFlags := 16409, slot := 7, constantValue := 0 }, { name := "LEFT_PAREN", type := (.object "com/example/endless_runs/endlessruns/hoa/HoaLexer$Kind"), accessFlags := 16409, slot := 8, constantValue := 0 }, { name := "RIGHT_PAREN", type := (.object "com/example/endless_runs/endlessruns/hoa/HoaLexer$Kind"), accessFlags := 16409, slot := 9, constantValue := 0 }, { name := "LEFT_BRACKET", type := (.object "com/example/endless_runs/endlessruns/hoa/HoaLexer$Kind"), accessFlags := 16409, slot := 10, constantValue := 0 }, { name := "RIGHT_BRACKET", type := (.object "com/example/endless_runs/endlessruns/hoa/HoaLexer$Kind"), accessFlags := 16409, slot := 11, constantValue := 0 }, { name := "LEFT_BRACE", type := (.object "com/example/endless_runs/endlessruns/hoa/HoaLexer$Kind"), accessFlags := 16409, slot := 12, constantValue := 0 }, { name := "RIGHT_BRACE", type := (.object "com/example/endless_runs/endlessruns/hoa/HoaLexer$Kind"), accessFlags := 16409, slot := 13, constantValue := 0 }, { name := "BODY", type := (.object "com/example/endless_runs/endlessruns/hoa/HoaLexer$Kind"), accessFlags := 16409, slot := 14, constantValue := 0 }, { name := "END", type := (.object "com/example/endless_runs/endlessruns/hoa/HoaLexer$Kind"), accessFlags := 16409, slot := 15, constantValue := 0 }, { name := "ABORT", type := (.object "com/example/endless_runs/endlessruns/hoa/HoaLexer$Kind"), accessFlags := 16409, slot := 16, constantValue := 0 }, { name := "END_OF_INPUT", type := (.object "com/example/endless_runs/endlessruns/hoa/HoaLexer$Kind"), accessFlags := 16409, slot := 17, constantValue := 0 }, { name := "$VALUES", type := (.array (.object "com/example/endless_runs/endlessruns/hoa/HoaLexer$Kind")), accessFlags := 4122, slot := 18, constantValue := 0 }]
  methods := #[]
  instanceTypes := #[(.object "java/lang/String"), .int, .int]
  staticTypes := #[(.object "com/example/endless_runs/endlessruns/hoa/HoaLexer$Kind"), (.object "com/example/endless_runs/endlessruns/hoa/HoaLexer$Kind"), (.object "com/example/endless_runs/endlessruns/hoa/HoaLexer$Kind"), (.object "com/example/endless_runs/endlessruns/hoa/HoaLexer$Kind"), (.object "com/example/endless_runs/endlessruns/hoa/HoaLexer$Kind"), (.object "com/example/endless_runs/endlessruns/hoa/HoaLexer$Kind"), (.object "com/example/endless_runs/endlessruns/hoa/HoaLexer$Kind"), (.object "com/example/endless_runs/endlessruns/hoa/HoaLexer$Kind"), (.object "com/example/endless_runs/endlessruns/hoa/HoaLexer$Kind"), (.object "com/example/endless_runs/endlessruns/hoa/HoaLexer$Kind"), (.object "com/example/endless_runs/endlessruns/hoa/HoaLexer$Kind"), (.object "com/example/endless_runs/endlessruns/hoa/HoaLexer$Kind"), (.object "com/example/endless_runs/endlessruns/hoa/HoaLexer$Kind"), (.object "com/example/endless_runs/endlessruns/hoa/HoaLexer$Kind"), (.object "com/example/endless_runs/endlessruns/hoa/HoaLexer$Kind"), (.object "com/example/endless_runs/endlessruns/hoa/HoaLexer$Kind"), (.object "com/example/endless_runs/endlessruns/hoa/HoaLexer$Kind"), (.object "com/example/endless_runs/endlessruns/hoa/HoaLexer$Kind"), (.array (.object "com/example/endless_runs/endlessruns/hoa/HoaLexer$Kind"))]
  resolved := Array.replicate 116 none
  statics := some 0 }

def pool7 : Array CpInfo := pool [(2, .class_ 4), (1, u "java/lang/CharSequence"), (42, .class_ 48), (0, u "java/lang/CharSequence$1CodePointIterator"), (10, .class_ 60), (0, u "java/lang/CharSequence$1CharIterator"), (5, .class_ 67), (0, u "java/lang/Object")] 63

/-- java/lang/CharSequence -/
def k7 : Class := { plain "java/lang/CharSequence" (some 0) with
  accessFlags := 1537
  interfaces := #[]
  cf := some (fileOf pool7 2 #[.nestMembers #[47, 59]] #[] 1537 66 #[] #[])
  fields := #[]
  methods := #[]
  instanceTypes := #[]
  staticTypes := #[]
  resolved := Array.replicate 131 none
  statics := none }

def pool8 : Array CpInfo := pool [(1, .class_ 2), (0, u "java/lang/constant/ConstantDesc"), (0, .class_ 4), (0, u "java/lang/Object")] 32

/-- java/lang/constant/ConstantDesc -/
def k8 : Class := { plain "java/lang/constant/ConstantDesc" (some 0) with
  accessFlags := 1537
  interfaces := #[]
  cf := some (fileOf pool8 1 #[] #[] 1537 3 #[] #[])
  fields := #[]
  methods := #[]
  instanceTypes := #[]
  staticTypes := #[]
  resolved := Array.replicate 37 none
  statics := none }

def pool9 : Array CpInfo := pool [(1, .methodref 2 3), (0, .class_ 4), (0, .nameAndType 5 6), (0, u "java/lang/Object"), (0, u "<init>"), (0, u "()V"), (0, .string 8), (0, u ""), (0, .fieldref 10 11), (0, .class_ 12), (0, .nameAndType 13 14), (0, u "java/lang/String"), (0, u "value"), (0, u "[B"), (0, .fieldref 10 16), (0, .nameAndType 17 18), (0, u "coder"), (0, u "B"), (2, u "hash"), (0, u "I"), (2, u "hashIsZero"), (0, u "Z"), (0, .methodref 10 28), (0, .nameAndType 5 29), (0, u "([CIILjava/lang/Void;)V"), (8, .fieldref 10 39), (0, .nameAndType 40 26), (0, u "COMPACT_STRINGS"), (1, .class_ 44), (1, u "java/lang/StringUTF16"), (0, u "compress"), (1, .methodref 42 48), (0, .nameAndType 49 50), (0, u "coderFromArrayLen"), (0, u "([BI)B"), (56, .class_ 109), (1, u "java/lang/StringLatin1"), (67, .methodref 42 178), (0, .nameAndType 45 179), (0, u "([CII)[B"), (361, .methodref 107 542), (0, .nameAndType 543 544), (0, u "equals"), (0, u "([B[B)Z"), (28, u "(Ljava/lang/Object;)Z"), (1, .class_ 576), (0, u "java/lang/CharSequence"), (22, u "CASE_INSENSITIVE_ORDER"), (0, u "Ljava/util/Comparator;"), (409, u "([C)V"), (90, u "serialPersistentFields"), (0, u "[Ljava/io/ObjectStreamField;"), (0, .class_ 1104), (0, u "java/lang/String$CaseInsensitiveComparator"), (1, .class_ 1107), (0, u "java/io/Serializable"), (0, .class_ 1109), (0, u "java/lang/Comparable"), (0, .class_ 1111), (0, u "java/lang/constant/Constable"), (0, .class_ 1113), (0, u "java/lang/constant/ConstantDesc"), (2, u "serialVersionUID"), (0, u "J"), (3, u "REPL"), (0, u "C"), (2, u "LATIN1"), (1, u "UTF16")] 323

def k9m0 : Method := { name := "<init>", desc := "()V", sig := { parameters := [], returnType := none }, accessFlags := 1, code := none }
def k9c1 : Code := { maxStack := 5, maxLocals := 2, code := jdk_42_method_3_code, exceptionTable := #[], attributes := #[] }
def k9m1 : Method := { name := "<init>", desc := "([C)V", sig := { parameters := [(.array .char)], returnType := none }, accessFlags := 1, code := some k9c1 }
def k9c2 : Code := { maxStack := 2, maxLocals := 3, code := jdk_42_method_66_code, exceptionTable := #[], attributes := #[] }
def k9m2 : Method := { name := "equals", desc := "(Ljava/lang/Object;)Z", sig := { parameters := [(.object "java/lang/Object")], returnType := some .boolean }, accessFlags := 1, code := some k9c2 }
def k9c3 : Code := { maxStack := 4, maxLocals := 6, code := jdk_42_method_149_code, exceptionTable := #[], attributes := #[] }
def k9m3 : Method := { name := "<init>", desc := "([CIILjava/lang/Void;)V", sig := { parameters := [(.array .char), .int, .int, (.object "java/lang/Void")], returnType := none }, accessFlags := 2, code := some k9c3 }
/-- java/lang/String -/
def k9 : Class := { plain "java/lang/String" (some 0) with
  accessFlags := 49
  interfaces := #[4, 3, 7, 2, 8]
  cf := some (fileOf pool9 10 #[.nestMembers #[1103]] #[{ accessFlags := 1, nameIndex := 5, descriptorIndex := 6, attributes := #[] }, { accessFlags := 1, nameIndex := 5, descriptorIndex := 1010, attributes := #[] }, { accessFlags := 1, nameIndex := 543, descriptorIndex := 573, attributes := #[] }, { accessFlags := 2, nameIndex := 5, descriptorIndex := 29, attributes := #[] }] 49 2 #[1106, 1108, 575, 1110, 1112] #[{ accessFlags := 18, nameIndex := 13, descriptorIndex := 14, attributes := #[] }, { accessFlags := 18, nameIndex := 17, descriptorIndex := 18, attributes := #[] }, { accessFlags := 2, nameIndex := 21, descriptorIndex := 22, attributes := #[] }, { accessFlags := 2, nameIndex := 25, descriptorIndex := 26, attributes := #[] }, { accessFlags := 26, nameIndex := 1116, descriptorIndex := 1117, attributes := #[] }, { accessFlags := 24, nameIndex := 40, descriptorIndex := 26, attributes := #[] }, { accessFlags := 26, nameIndex := 1101, descriptorIndex := 1102, attributes := #[] }, { accessFlags := 26, nameIndex := 1121, descriptorIndex := 1122, attributes := #[] }, { accessFlags := 25, nameIndex := 599, descriptorIndex := 600, attributes := #[] }, { accessFlags := 24, nameIndex := 1125, descriptorIndex := 18, attributes := #[] }, { accessFlags := 24, nameIndex := 1127, descriptorIndex := 18, attributes := #[] }])
  fields := #[{ name := "value", type := (.array .byte), accessFlags := 18, slot := 0, constantValue := 0 }, { name := "coder", type := .byte, accessFlags := 18, slot := 1, constantValue := 0 }, { name := "hash", type := .int, accessFlags := 2, slot := 2, constantValue := 0 }, { name := "hashIsZero", type := .boolean, accessFlags := 2, slot := 3, constantValue := 0 }, { name := "serialVersionUID", type := .long, accessFlags := 26, slot := 0, constantValue := 0 }, { name := "COMPACT_STRINGS", type := .boolean, accessFlags := 24, slot := 1, constantValue := 0 }, { name := "serialPersistentFields", type := (.array (.object "java/io/ObjectStreamField")), accessFlags := 26, slot := 2, constantValue := 0 }, { name := "REPL", type := .char, accessFlags := 26, slot := 3, constantValue := 0 }, { name := "CASE_INSENSITIVE_ORDER", type := (.object "java/util/Comparator"), accessFlags := 25, slot := 4, constantValue := 0 }, { name := "LATIN1", type := .byte, accessFlags := 24, slot := 5, constantValue := 0 }, { name := "UTF16", type := .byte, accessFlags := 24, slot := 6, constantValue := 0 }]
  methods := #[k9m0, k9m1, k9m2, k9m3]
  instanceTypes := #[(.array .byte), .byte, .int, .boolean]
  staticTypes := #[.long, .boolean, (.array (.object "java/io/ObjectStreamField")), .char, (.object "java/util/Comparator"), .byte, .byte]
  resolved := Array.replicate 1451 none
  statics := some 1 }

def pool10 : Array CpInfo := pool [(1, .methodref 2 3), (0, .class_ 4), (0, .nameAndType 5 6), (0, u "java/lang/Object"), (0, u "<init>"), (0, u "()V"), (0, .fieldref 8 9), (0, .class_ 10), (0, .nameAndType 11 12), (0, u "com/example/endless_runs/endlessruns/hoa/HoaLexer$Token"), (0, u "kind"), (0, u "Lcom/example/endless_runs/endlessruns/hoa/HoaLexer$Kind;"), (0, .fieldref 8 14), (0, .nameAndType 15 16), (0, u "text"), (0, u "Ljava/lang/String;"), (0, .fieldref 8 18), (0, .nameAndType 19 20), (0, u "value"), (0, u "I"), (0, .fieldref 8 22), (0, .nameAndType 23 20), (0, u "automaton"), (0, .fieldref 8 25), (0, .nameAndType 26 20), (0, u "line"), (0, .methodref 28 29), (0, .class_ 30), (0, .nameAndType 31 32), (0, u "java/lang/String"), (0, u "equals"), (0, u "(Ljava/lang/Object;)Z"), (16, u "(Lcom/example/endless_runs/endlessruns/hoa/HoaLexer$Kind;Ljava/lang/String;III)V"), (4, u "is"), (0, u "(Lcom/example/endless_runs/endlessruns/hoa/HoaLexer$Kind;Ljava/lang/String;)Z"), (5, .class_ 62), (0, u "com/example/endless_runs/endlessruns/hoa/HoaLexer")] 21

def k10c0 : Code := { maxStack := 2, maxLocals := 6, code := prog_74_method_1_code, exceptionTable := #[], attributes := #[] }
def k10m0 : Method := { name := "<init>", desc := "(Lcom/example/endless_runs/endlessruns/hoa/HoaLexer$Kind;Ljava/lang/String;III)V", sig := { parameters := [(.object "com/example/endless_runs/endlessruns/hoa/HoaLexer$Kind"), (.object "java/lang/String"), .int, .int, .int], returnType := none }, accessFlags := 0, code := some k10c0 }
def k10c1 : Code := { maxStack := 2, maxLocals := 3, code := prog_74_method_5_code, exceptionTable := #[], attributes := #[] }
def k10m1 : Method := { name := "is", desc := "(Lcom/example/endless_runs/endlessruns/hoa/HoaLexer$Kind;Ljava/lang/String;)Z", sig := { parameters := [(.object "com/example/endless_runs/endlessruns/hoa/HoaLexer$Kind"), (.object "java/lang/String")], returnType := some .boolean }, accessFlags := 0, code := some k10c1 }
/-- com/example/endless_runs/endlessruns/hoa/HoaLexer$Token -/
def k10 : Class := { plain "com/example/endless_runs/endlessruns/hoa/HoaLexer$Token" (some 0) with
  accessFlags := 48
  interfaces := #[]
  cf := some (fileOf pool10 8 #[.nestHost 61] #[{ accessFlags := 0, nameIndex := 5, descriptorIndex := 49, attributes := #[] }, { accessFlags := 0, nameIndex := 54, descriptorIndex := 55, attributes := #[] }] 48 2 #[] #[{ accessFlags := 18, nameIndex := 11, descriptorIndex := 12, attributes := #[] }, { accessFlags := 18, nameIndex := 15, descriptorIndex := 16, attributes := #[] }, { accessFlags := 18, nameIndex := 19, descriptorIndex := 20, attributes := #[] }, { accessFlags := 18, nameIndex := 23, descriptorIndex := 20, attributes := #[] }, { accessFlags := 18, nameIndex := 26, descriptorIndex := 20, attributes := #[] }])
  fields := #[{ name := "kind", type := (.object "com/example/endless_runs/endlessruns/hoa/HoaLexer$Kind"), accessFlags := 18, slot := 0, constantValue := 0 }, { name := "text", type := (.object "java/lang/String"), accessFlags := 18, slot := 1, constantValue := 0 }, { name := "value", type := .int, accessFlags := 18, slot := 2, constantValue := 0 }, { name := "automaton", type := .int, accessFlags := 18, slot := 3, constantValue := 0 }, { name := "line", type := .int, accessFlags := 18, slot := 4, constantValue := 0 }]
  methods := #[k10m0, k10m1]
  instanceTypes := #[(.object "com/example/endless_runs/endlessruns/hoa/HoaLexer$Kind"), (.object "java/lang/String"), .int, .int, .int]
  staticTypes := #[]
  resolved := Array.replicate 84 none
  statics := none }

def pool11 : Array CpInfo := pool [(4, .class_ 6), (1, u "java/lang/Object"), (0, u "<init>"), (0, u "()V"), (5, .class_ 16), (1, u "java/lang/StringLatin1"), (104, u "$assertionsDisabled"), (0, u "Z"), (98, .class_ 223), (1, u "java/lang/StringLatin1$LinesSpliterator"), (57, u "equals"), (0, u "([B[B)Z"), (107, .class_ 391), (0, u "java/lang/StringLatin1$CharsSpliterator")] 3

def k11m0 : Method := { name := "<init>", desc := "()V", sig := { parameters := [], returnType := none }, accessFlags := 0, code := none }
def k11c1 : Code := { maxStack := 3, maxLocals := 3, code := jdk_43_method_13_code, exceptionTable := #[], attributes := #[] }
def k11m1 : Method := { name := "equals", desc := "([B[B)Z", sig := { parameters := [(.array .byte), (.array .byte)], returnType := some .boolean }, accessFlags := 9, code := some k11c1 }
/-- java/lang/StringLatin1 -/
def k11 : Class := { plain "java/lang/StringLatin1" (some 0) with
  accessFlags := 48
  interfaces := #[]
  cf := some (fileOf pool11 14 #[.nestMembers #[390, 221]] #[{ accessFlags := 0, nameIndex := 7, descriptorIndex := 8, attributes := #[] }, { accessFlags := 9, nameIndex := 281, descriptorIndex := 282, attributes := #[] }] 48 4 #[] #[{ accessFlags := 4120, nameIndex := 121, descriptorIndex := 122, attributes := #[] }])
  fields := #[{ name := "$assertionsDisabled", type := .boolean, accessFlags := 4120, slot := 0, constantValue := 0 }]
  methods := #[k11m0, k11m1]
  instanceTypes := #[]
  staticTypes := #[.boolean]
  resolved := Array.replicate 395 none
  statics := none }

def pool12 : Array CpInfo := pool [(6, .class_ 8), (1, u "java/lang/Object"), (0, u "<init>"), (0, u "()V"), (1, .class_ 14), (1, u "java/lang/StringUTF16"), (31, u "$assertionsDisabled"), (0, u "Z"), (13, u "HI_BYTE_SHIFT"), (0, u "I"), (2, u "LO_BYTE_SHIFT"), (49, .methodref 12 116), (0, .nameAndType 117 118), (0, u "compress"), (0, u "([CI[BII)I"), (3, u "([CII)[B"), (138, u "coderFromArrayLen"), (0, u "([BI)B"), (106, .class_ 371), (1, u "java/lang/StringUTF16$LinesSpliterator"), (58, u "MAX_LENGTH"), (196, .class_ 628), (0, u "java/lang/StringUTF16$CodePointsSpliterator"), (0, .class_ 630), (0, u "java/lang/StringUTF16$CharsSpliterator")] 4

def k12m0 : Method := { name := "<init>", desc := "()V", sig := { parameters := [], returnType := none }, accessFlags := 0, code := none }
def k12c1 : Code := { maxStack := 2, maxLocals := 2, code := jdk_52_method_15_code, exceptionTable := #[], attributes := #[] }
def k12m1 : Method := { name := "coderFromArrayLen", desc := "([BI)B", sig := { parameters := [(.array .byte), .int], returnType := some .byte }, accessFlags := 8, code := some k12c1 }
def k12c2 : Code := { maxStack := 5, maxLocals := 6, code := jdk_52_method_16_code, exceptionTable := #[], attributes := #[] }
def k12m2 : Method := { name := "compress", desc := "([CII)[B", sig := { parameters := [(.array .char), .int, .int], returnType := some (.array .byte) }, accessFlags := 9, code := some k12c2 }
def k12c3 : Code := { maxStack := 3, maxLocals := 7, code := jdk_52_method_21_code, exceptionTable := #[], attributes := #[] }
def k12m3 : Method := { name := "compress", desc := "([CI[BII)I", sig := { parameters := [(.array .char), .int, (.array .byte), .int, .int], returnType := some .int }, accessFlags := 9, code := some k12c3 }
/-- java/lang/StringUTF16 -/
def k12 : Class := { plain "java/lang/StringUTF16" (some 0) with
  accessFlags := 48
  interfaces := #[]
  cf := some (fileOf pool12 12 #[.nestMembers #[627, 629, 369]] #[{ accessFlags := 0, nameIndex := 9, descriptorIndex := 10, attributes := #[] }, { accessFlags := 8, nameIndex := 261, descriptorIndex := 262, attributes := #[] }, { accessFlags := 9, nameIndex := 117, descriptorIndex := 122, attributes := #[] }, { accessFlags := 9, nameIndex := 117, descriptorIndex := 118, attributes := #[] }] 48 6 #[] #[{ accessFlags := 26, nameIndex := 61, descriptorIndex := 62, attributes := #[] }, { accessFlags := 26, nameIndex := 65, descriptorIndex := 62, attributes := #[] }, { accessFlags := 24, nameIndex := 430, descriptorIndex := 62, attributes := #[] }, { accessFlags := 4120, nameIndex := 46, descriptorIndex := 47, attributes := #[] }])
  fields := #[{ name := "HI_BYTE_SHIFT", type := .int, accessFlags := 26, slot := 0, constantValue := 0 }, { name := "LO_BYTE_SHIFT", type := .int, accessFlags := 26, slot := 1, constantValue := 0 }, { name := "MAX_LENGTH", type := .int, accessFlags := 24, slot := 2, constantValue := 0 }, { name := "$assertionsDisabled", type := .boolean, accessFlags := 4120, slot := 3, constantValue := 0 }]
  methods := #[k12m0, k12m1, k12m2, k12m3]
  instanceTypes := #[]
  staticTypes := #[.int, .int, .int, .boolean]
  resolved := Array.replicate 635 none
  statics := none }

def pool13 : Array CpInfo := pool [(2, .class_ 4), (1, u "java/lang/Object"), (0, u "<init>"), (0, u "()V"), (17, .class_ 26), (1, u "jdk/internal/util/Preconditions"), (28, .class_ 56), (0, u "jdk/internal/util/Preconditions$4"), (57, .class_ 115), (0, u "jdk/internal/util/Preconditions$1"), (7, u "SIOOBE_FORMATTER"), (0, u "Ljava/util/function/BiFunction;"), (0, .class_ 126), (0, u "jdk/internal/util/Preconditions$2"), (3, u "AIOOBE_FORMATTER"), (0, .class_ 132), (0, u "jdk/internal/util/Preconditions$3"), (3, u "IOOBE_FORMATTER")] 57

def k13m0 : Method := { name := "<init>", desc := "()V", sig := { parameters := [], returnType := none }, accessFlags := 1, code := none }
/-- jdk/internal/util/Preconditions -/
def k13 : Class := { plain "jdk/internal/util/Preconditions" (some 0) with
  accessFlags := 33
  interfaces := #[]
  cf := some (fileOf pool13 24 #[.nestMembers #[55, 131, 125, 114]] #[{ accessFlags := 1, nameIndex := 5, descriptorIndex := 6, attributes := #[] }] 33 2 #[] #[{ accessFlags := 25, nameIndex := 123, descriptorIndex := 124, attributes := #[] }, { accessFlags := 25, nameIndex := 130, descriptorIndex := 124, attributes := #[] }, { accessFlags := 25, nameIndex := 136, descriptorIndex := 124, attributes := #[] }])
  fields := #[{ name := "SIOOBE_FORMATTER", type := (.object "java/util/function/BiFunction"), accessFlags := 25, slot := 0, constantValue := 0 }, { name := "AIOOBE_FORMATTER", type := (.object "java/util/function/BiFunction"), accessFlags := 25, slot := 1, constantValue := 0 }, { name := "IOOBE_FORMATTER", type := (.object "java/util/function/BiFunction"), accessFlags := 25, slot := 2, constantValue := 0 }]
  methods := #[k13m0]
  instanceTypes := #[]
  staticTypes := #[(.object "java/util/function/BiFunction"), (.object "java/util/function/BiFunction"), (.object "java/util/function/BiFunction")]
  resolved := Array.replicate 194 none
  statics := some 2 }

def pool14 : Array CpInfo := pool [(9, u "<init>"), (6, .class_ 18), (1, u "java/lang/Object"), (0, u "()V"), (1, .class_ 23), (1, u "jdk/internal/util/ArraysSupport"), (0, u "LOG2_ARRAY_LONG_INDEX_SCALE"), (0, u "I"), (2, u "U"), (0, u "Ljdk/internal/misc/Unsafe;"), (8, u "BIG_ENDIAN"), (0, u "Z"), (8, u "LOG2_BYTE_BIT_SIZE"), (4, u "LOG2_ARRAY_INT_INDEX_SCALE"), (54, u "JLA"), (0, u "Ljdk/internal/access/JavaLangAccess;"), (11, u "LOG2_ARRAY_BOOLEAN_INDEX_SCALE"), (9, u "LOG2_ARRAY_BYTE_INDEX_SCALE"), (5, u "LOG2_ARRAY_CHAR_INDEX_SCALE"), (5, u "LOG2_ARRAY_SHORT_INDEX_SCALE"), (18, u "LOG2_ARRAY_FLOAT_INDEX_SCALE"), (24, u "LOG2_ARRAY_DOUBLE_INDEX_SCALE"), (89, u "T_BOOLEAN"), (2, u "T_CHAR"), (1, u "T_FLOAT"), (1, u "T_DOUBLE"), (1, u "T_BYTE"), (1, u "T_SHORT"), (1, u "T_INT"), (1, u "T_LONG"), (1, u "SOFT_MAX_ARRAY_LENGTH")] 83

def k14m0 : Method := { name := "<init>", desc := "()V", sig := { parameters := [], returnType := none }, accessFlags := 2, code := none }
/-- jdk/internal/util/ArraysSupport -/
def k14 : Class := { plain "jdk/internal/util/ArraysSupport" (some 0) with
  accessFlags := 33
  interfaces := #[]
  cf := some (fileOf pool14 21 #[] #[{ accessFlags := 2, nameIndex := 9, descriptorIndex := 19, attributes := #[] }] 33 16 #[] #[{ accessFlags := 24, nameIndex := 28, descriptorIndex := 29, attributes := #[] }, { accessFlags := 26, nameIndex := 38, descriptorIndex := 39, attributes := #[] }, { accessFlags := 25, nameIndex := 121, descriptorIndex := 25, attributes := #[] }, { accessFlags := 25, nameIndex := 131, descriptorIndex := 25, attributes := #[] }, { accessFlags := 25, nameIndex := 137, descriptorIndex := 25, attributes := #[] }, { accessFlags := 25, nameIndex := 143, descriptorIndex := 25, attributes := #[] }, { accessFlags := 25, nameIndex := 53, descriptorIndex := 25, attributes := #[] }, { accessFlags := 25, nameIndex := 24, descriptorIndex := 25, attributes := #[] }, { accessFlags := 25, nameIndex := 162, descriptorIndex := 25, attributes := #[] }, { accessFlags := 25, nameIndex := 187, descriptorIndex := 25, attributes := #[] }, { accessFlags := 26, nameIndex := 48, descriptorIndex := 25, attributes := #[] }, { accessFlags := 25, nameIndex := 277, descriptorIndex := 25, attributes := #[] }, { accessFlags := 25, nameIndex := 280, descriptorIndex := 25, attributes := #[] }, { accessFlags := 25, nameIndex := 282, descriptorIndex := 25, attributes := #[] }, { accessFlags := 25, nameIndex := 284, descriptorIndex := 25, attributes := #[] }, { accessFlags := 25, nameIndex := 286, descriptorIndex := 25, attributes := #[] }, { accessFlags := 25, nameIndex := 288, descriptorIndex := 25, attributes := #[] }, { accessFlags := 25, nameIndex := 290, descriptorIndex := 25, attributes := #[] }, { accessFlags := 25, nameIndex := 292, descriptorIndex := 25, attributes := #[] }, { accessFlags := 26, nameIndex := 108, descriptorIndex := 109, attributes := #[] }, { accessFlags := 25, nameIndex := 294, descriptorIndex := 25, attributes := #[] }])
  fields := #[{ name := "U", type := (.object "jdk/internal/misc/Unsafe"), accessFlags := 24, slot := 0, constantValue := 0 }, { name := "BIG_ENDIAN", type := .boolean, accessFlags := 26, slot := 1, constantValue := 0 }, { name := "LOG2_ARRAY_BOOLEAN_INDEX_SCALE", type := .int, accessFlags := 25, slot := 2, constantValue := 0 }, { name := "LOG2_ARRAY_BYTE_INDEX_SCALE", type := .int, accessFlags := 25, slot := 3, constantValue := 0 }, { name := "LOG2_ARRAY_CHAR_INDEX_SCALE", type := .int, accessFlags := 25, slot := 4, constantValue := 0 }, { name := "LOG2_ARRAY_SHORT_INDEX_SCALE", type := .int, accessFlags := 25, slot := 5, constantValue := 0 }, { name := "LOG2_ARRAY_INT_INDEX_SCALE", type := .int, accessFlags := 25, slot := 6, constantValue := 0 }, { name := "LOG2_ARRAY_LONG_INDEX_SCALE", type := .int, accessFlags := 25, slot := 7, constantValue := 0 }, { name := "LOG2_ARRAY_FLOAT_INDEX_SCALE", type := .int, accessFlags := 25, slot := 8, constantValue := 0 }, { name := "LOG2_ARRAY_DOUBLE_INDEX_SCALE", type := .int, accessFlags := 25, slot := 9, constantValue := 0 }, { name := "LOG2_BYTE_BIT_SIZE", type := .int, accessFlags := 26, slot := 10, constantValue := 0 }, { name := "T_BOOLEAN", type := .int, accessFlags := 25, slot := 11, constantValue := 0 }, { name := "T_CHAR", type := .int, accessFlags := 25, slot := 12, constantValue := 0 }, { name := "T_FLOAT", type := .int, accessFlags := 25, slot := 13, constantValue := 0 }, { name := "T_DOUBLE", type := .int, accessFlags := 25, slot := 14, constantValue := 0 }, { name := "T_BYTE", type := .int, accessFlags := 25, slot := 15, constantValue := 0 }, { name := "T_SHORT", type := .int, accessFlags := 25, slot := 16, constantValue := 0 }, { name := "T_INT", type := .int, accessFlags := 25, slot := 17, constantValue := 0 }, { name := "T_LONG", type := .int, accessFlags := 25, slot := 18, constantValue := 0 }, { name := "JLA", type := (.object "jdk/internal/access/JavaLangAccess"), accessFlags := 26, slot := 19, constantValue := 0 }, { name := "SOFT_MAX_ARRAY_LENGTH", type := .int, accessFlags := 25, slot := 20, constantValue := 0 }]
  methods := #[k14m0]
  instanceTypes := #[]
  staticTypes := #[(.object "jdk/internal/misc/Unsafe"), .boolean, .int, .int, .int, .int, .int, .int, .int, .int, .int, .int, .int, .int, .int, .int, .int, .int, .int, (.object "jdk/internal/access/JavaLangAccess"), .int]
  resolved := Array.replicate 378 none
  statics := none }

def pool15 : Array CpInfo := pool [(1, u "java/lang/Cloneable"), (0, .class_ 1), (0, u "java/lang/Object"), (0, .class_ 3)] 3

/-- java/lang/Cloneable -/
def k15 : Class := { plain "java/lang/Cloneable" (some 0) with
  accessFlags := 1537
  interfaces := #[]
  cf := some (fileOf pool15 2 #[] #[] 1537 4 #[] #[])
  fields := #[]
  methods := #[]
  instanceTypes := #[]
  staticTypes := #[]
  resolved := Array.replicate 8 none
  statics := none }

/-- the primitive byte -/
def k16 : Class := { plain "byte" none with kind := .primitive 'B', accessFlags := 0x411 }
/-- [B -/
def k17 : Class := { plain "[B" (some 0) with kind := .array 16 .byte, interfaces := #[15, 4], accessFlags := 1041 }

/-- the primitive char -/
def k18 : Class := { plain "char" none with kind := .primitive 'C', accessFlags := 0x411 }
/-- [C -/
def k19 : Class := { plain "[C" (some 0) with kind := .array 18 .char, interfaces := #[15, 4], accessFlags := 1041 }

/-- the primitive int -/
def k20 : Class := { plain "int" none with kind := .primitive 'I', accessFlags := 0x411 }
/-- [I -/
def k21 : Class := { plain "[I" (some 0) with kind := .array 20 .int, interfaces := #[15, 4], accessFlags := 1041 }

def heap : Heap := #[{ cls := 6, slots := #[.ref 3, .ref 4, .ref 5, .ref 6, .ref 7, .ref 8, .ref 9, .ref 10, .ref 11, .ref 12, .ref 13, .ref 14, .ref 15, .ref 16, .ref 17, .ref 18, .ref 19, .ref 20, .null], vm := .statics 6 },
  { cls := 9, slots := #[.long 0, .int 1, .null, .int 0, .null, .int 0, .int 0], vm := .statics 9 },
  { cls := 13, slots := #[.null, .null, .null], vm := .statics 13 },
  { cls := 6, slots := #[.null, .int 0, .int 0], vm := .none },
  { cls := 6, slots := #[.null, .int 1, .int 0], vm := .none },
  { cls := 6, slots := #[.null, .int 2, .int 0], vm := .none },
  { cls := 6, slots := #[.null, .int 3, .int 0], vm := .none },
  { cls := 6, slots := #[.null, .int 4, .int 0], vm := .none },
  { cls := 6, slots := #[.null, .int 5, .int 0], vm := .none },
  { cls := 6, slots := #[.null, .int 6, .int 0], vm := .none },
  { cls := 6, slots := #[.null, .int 7, .int 0], vm := .none },
  { cls := 6, slots := #[.null, .int 8, .int 0], vm := .none },
  { cls := 6, slots := #[.null, .int 9, .int 0], vm := .none },
  { cls := 6, slots := #[.null, .int 10, .int 0], vm := .none },
  { cls := 6, slots := #[.null, .int 11, .int 0], vm := .none },
  { cls := 6, slots := #[.null, .int 12, .int 0], vm := .none },
  { cls := 6, slots := #[.null, .int 13, .int 0], vm := .none },
  { cls := 6, slots := #[.null, .int 14, .int 0], vm := .none },
  { cls := 6, slots := #[.null, .int 15, .int 0], vm := .none },
  { cls := 6, slots := #[.null, .int 16, .int 0], vm := .none },
  { cls := 6, slots := #[.null, .int 17, .int 0], vm := .none }]
def classes : Array Class := #[k0, k1, k2, k3, k4, k5, k6, k7, k8, k9, k10, k11, k12, k13, k14, k15, k16, k17, k18, k19, k20, k21]
def interned : List (Array UInt16 × Addr) := []
def slotsUsed : Nat := 83
def theMethod : MethodId := ⟨1, 3⟩
def args0 : Array Value := #[.int 5, .int 6, .int 7, .int 8, .int 9]
def aboutOver (below : List Frame) : State where
  vm := { classes := classes, interned := interned.toArray }
  heap := heap
  slotsUsed := slotsUsed
  threads := #[{ frames := .invoking theMethod args0 :: below }]
def below0 : List Frame := [.native { method := ⟨0, 0⟩, args := #[] }]
def about1 : State := aboutOver below0
def p0 : Program := .bare "" "" ""
def e0 : Env := launch0.env 0 0 0
theorem w_frames : about1.frames = Frame.invoking theMethod args0 :: below0 := rfl
set_option maxRecDepth 65536 in
theorem w_args : argsFit about1.vm theMethod args0 = true := by decide +kernel
set_option maxRecDepth 65536 in
theorem w_heap : heapFits about1 = true := by decide +kernel
set_option maxRecDepth 65536 in
theorem w_runnable : about1.curStatus? = some .runnable := by decide +kernel
set_option maxRecDepth 65536 in
theorem w_alone : about1.alone = true := by decide +kernel
set_option maxRecDepth 65536 in
theorem w_named : about1.methodNamed? x = some theMethod := by decide +kernel
set_option maxRecDepth 65536 in
theorem w_hears : about1.hears theMethod below0 = true := by decide +kernel
set_option maxRecDepth 65536 in
theorem w_ripe : about1.ripe theMethod args0 below0 = true := by decide +kernel
theorem w_running : about1.status = .running := rfl
set_option maxRecDepth 65536 in
theorem w_room : about1.hasRoom e0.platform room_1 = true :=
  launch0.hasRoom_least _ room_1 (by decide +kernel) (by decide +kernel) (by decide +kernel) (by decide +kernel) (by decide +kernel) (by decide +kernel)
theorem allAtoms_all (ts : List Jvm.Cond) (a : Array Jvm.Value) (st : Jvm.State) : (allAtoms ts).before a st = ts.all (fun c => c.before a st) := by
  induction ts with
  | nil => rfl
  | cons c t ih =>
    show (Jvm.Cond.and c (allAtoms t)).before a st = _
    rw [Jvm.Cond.before_and, ih, List.all_cons]
def words1 : List Jvm.Cond := Jvm.Cond.code x code maxLocals ret :: tables_1
/-- a 'code' word, met by the world's own term for the bytes: nothing is compared byte by byte -/
theorem code_word {y : MethodName} {bytes : ByteArray} {mx : Nat} {rt : Option FieldType} {a : Array Value} {s : State} {m : MethodId} {meth : Method} {c : Code} (h1 : s.methodNamed? y = some m) (h2 : s.vm.method? m = some meth) (h3 : meth.code = some c) (h4 : c.code = bytes)
    (h5 : (c.maxLocals == mx && c.exceptionTable.isEmpty && decide (c.maxStack ≤ mostOperands) && decide (meth.sig.returnType = rt) && !meth.locks && decide (parseMethodDescriptor y.desc = some meth.sig)) = true) : (Jvm.Cond.code y bytes mx rt).before a s = true := by
  simp only [Bool.and_eq_true, beq_iff_eq, Bool.not_eq_true', decide_eq_true_eq] at h5
  obtain ⟨⟨⟨⟨⟨g1, g2⟩, g3⟩, g4⟩, g5⟩, g6⟩ := h5
  simp [Cond.before, Cond.holds, Cond.value, h1, h2, h3, h4, g1, g2, g3, g4, g5, g6]
def isCode : Jvm.Cond → Bool
  | .code _ _ _ _ => true
  | _ => false
theorem all_split {L : List Jvm.Cond} {P : Jvm.Cond → Bool} (h1 : L.all (fun c => isCode c || P c) = true) (h2 : ∀ c ∈ L.filter isCode, P c = true) : L.all P = true := by
  refine List.all_eq_true.mpr fun c hc => ?_
  have h := List.all_eq_true.mp h1 c hc
  rcases Bool.eq_false_or_eq_true (isCode c) with hi | hi
  · exact h2 c (List.mem_filter.mpr ⟨hc, hi⟩)
  · simpa [hi] using h
set_option maxRecDepth 65536 in
theorem w_c0 : (Jvm.Cond.code x code maxLocals ret).before args0 about1 = true := code_word (m := ⟨1, 3⟩) (meth := k1m3) (c := k1c3) (by decide +kernel) rfl rfl rfl (by decide +kernel)
set_option maxRecDepth 65536 in
theorem w_c1 : (Jvm.Cond.code ({ cls := "com/example/endless_runs/endlessruns/hoa/TokenIsPinLaw", name := "kindOf", desc := "(I)Lcom/example/endless_runs/endlessruns/hoa/HoaLexer$Kind;" } : Jvm.MethodName) method_2_code (1 : Nat) (Option.some (Jvm.ClassFile.FieldType.object "com/example/endless_runs/endlessruns/hoa/HoaLexer$Kind"))).before args0 about1 = true := code_word (m := ⟨1, 1⟩) (meth := k1m1) (c := k1c1) (by decide +kernel) rfl rfl rfl (by decide +kernel)
set_option maxRecDepth 65536 in
theorem w_c2 : (Jvm.Cond.code ({ cls := "com/example/endless_runs/endlessruns/hoa/TokenIsPinLaw", name := "str", desc := "(ICC)Ljava/lang/String;" } : Jvm.MethodName) method_3_code (3 : Nat) (Option.some (Jvm.ClassFile.FieldType.object "java/lang/String"))).before args0 about1 = true := code_word (m := ⟨1, 2⟩) (meth := k1m2) (c := k1c2) (by decide +kernel) rfl rfl rfl (by decide +kernel)
set_option maxRecDepth 65536 in
theorem w_c3 : (Jvm.Cond.code ({ cls := "java/lang/String", name := "<init>", desc := "([C)V" } : Jvm.MethodName) jdk_42_method_3_code (2 : Nat) (Option.none : Option Jvm.ClassFile.FieldType)).before args0 about1 = true := code_word (m := ⟨9, 1⟩) (meth := k9m1) (c := k9c1) (by decide +kernel) rfl rfl rfl (by decide +kernel)
set_option maxRecDepth 65536 in
theorem w_c4 : (Jvm.Cond.code ({ cls := "java/lang/String", name := "<init>", desc := "([CIILjava/lang/Void;)V" } : Jvm.MethodName) jdk_42_method_149_code (6 : Nat) (Option.none : Option Jvm.ClassFile.FieldType)).before args0 about1 = true := code_word (m := ⟨9, 3⟩) (meth := k9m3) (c := k9c3) (by decide +kernel) rfl rfl rfl (by decide +kernel)
set_option maxRecDepth 65536 in
theorem w_c5 : (Jvm.Cond.code ({ cls := "java/lang/Object", name := "<init>", desc := "()V" } : Jvm.MethodName) object_method_1_code (1 : Nat) (Option.none : Option Jvm.ClassFile.FieldType)).before args0 about1 = true := code_word (m := ⟨0, 0⟩) (meth := k0m0) (c := k0c0) (by decide +kernel) rfl rfl rfl (by decide +kernel)
set_option maxRecDepth 65536 in
theorem w_c6 : (Jvm.Cond.code ({ cls := "com/example/endless_runs/endlessruns/hoa/HoaLexer$Token", name := "<init>", desc := "(Lcom/example/endless_runs/endlessruns/hoa/HoaLexer$Kind;Ljava/lang/String;III)V" } : Jvm.MethodName) prog_74_method_1_code (6 : Nat) (Option.none : Option Jvm.ClassFile.FieldType)).before args0 about1 = true := code_word (m := ⟨10, 0⟩) (meth := k10m0) (c := k10c0) (by decide +kernel) rfl rfl rfl (by decide +kernel)
set_option maxRecDepth 65536 in
theorem w_c7 : (Jvm.Cond.code ({ cls := "com/example/endless_runs/endlessruns/hoa/HoaLexer$Token", name := "is", desc := "(Lcom/example/endless_runs/endlessruns/hoa/HoaLexer$Kind;Ljava/lang/String;)Z" } : Jvm.MethodName) prog_74_method_5_code (3 : Nat) (Option.some Jvm.ClassFile.FieldType.boolean)).before args0 about1 = true := code_word (m := ⟨10, 1⟩) (meth := k10m1) (c := k10c1) (by decide +kernel) rfl rfl rfl (by decide +kernel)
set_option maxRecDepth 65536 in
theorem w_c8 : (Jvm.Cond.code ({ cls := "java/lang/String", name := "equals", desc := "(Ljava/lang/Object;)Z" } : Jvm.MethodName) jdk_42_method_66_code (3 : Nat) (Option.some Jvm.ClassFile.FieldType.boolean)).before args0 about1 = true := code_word (m := ⟨9, 2⟩) (meth := k9m2) (c := k9c2) (by decide +kernel) rfl rfl rfl (by decide +kernel)
set_option maxRecDepth 65536 in
theorem w_c9 : (Jvm.Cond.code ({ cls := "java/lang/StringLatin1", name := "equals", desc := "([B[B)Z" } : Jvm.MethodName) jdk_43_method_13_code (3 : Nat) (Option.some Jvm.ClassFile.FieldType.boolean)).before args0 about1 = true := code_word (m := ⟨11, 1⟩) (meth := k11m1) (c := k11c1) (by decide +kernel) rfl rfl rfl (by decide +kernel)
set_option maxRecDepth 65536 in
theorem w_c10 : (Jvm.Cond.code ({ cls := "java/lang/StringUTF16", name := "compress", desc := "([CII)[B" } : Jvm.MethodName) jdk_52_method_16_code (6 : Nat) (Option.some (Jvm.ClassFile.FieldType.array Jvm.ClassFile.FieldType.byte))).before args0 about1 = true := code_word (m := ⟨12, 2⟩) (meth := k12m2) (c := k12c2) (by decide +kernel) rfl rfl rfl (by decide +kernel)
set_option maxRecDepth 65536 in
theorem w_c11 : (Jvm.Cond.code ({ cls := "java/lang/StringUTF16", name := "compress", desc := "([CI[BII)I" } : Jvm.MethodName) jdk_52_method_21_code (7 : Nat) (Option.some Jvm.ClassFile.FieldType.int)).before args0 about1 = true := code_word (m := ⟨12, 3⟩) (meth := k12m3) (c := k12c3) (by decide +kernel) rfl rfl rfl (by decide +kernel)
set_option maxRecDepth 65536 in
theorem w_c12 : (Jvm.Cond.code ({ cls := "java/lang/StringUTF16", name := "coderFromArrayLen", desc := "([BI)B" } : Jvm.MethodName) jdk_52_method_15_code (2 : Nat) (Option.some Jvm.ClassFile.FieldType.byte)).before args0 about1 = true := code_word (m := ⟨12, 1⟩) (meth := k12m1) (c := k12c1) (by decide +kernel) rfl rfl rfl (by decide +kernel)
def codes1 : List Jvm.Cond := [Jvm.Cond.code x code maxLocals ret, Jvm.Cond.code ({ cls := "com/example/endless_runs/endlessruns/hoa/TokenIsPinLaw", name := "kindOf", desc := "(I)Lcom/example/endless_runs/endlessruns/hoa/HoaLexer$Kind;" } : Jvm.MethodName) method_2_code (1 : Nat) (Option.some (Jvm.ClassFile.FieldType.object "com/example/endless_runs/endlessruns/hoa/HoaLexer$Kind")), Jvm.Cond.code ({ cls := "com/example/endless_runs/endlessruns/hoa/TokenIsPinLaw", name := "str", desc := "(ICC)Ljava/lang/String;" } : Jvm.MethodName) method_3_code (3 : Nat) (Option.some (Jvm.ClassFile.FieldType.object "java/lang/String")), Jvm.Cond.code ({ cls := "java/lang/String", name := "<init>", desc := "([C)V" } : Jvm.MethodName) jdk_42_method_3_code (2 : Nat) (Option.none : Option Jvm.ClassFile.FieldType), Jvm.Cond.code ({ cls := "java/lang/String", name := "<init>", desc := "([CIILjava/lang/Void;)V" } : Jvm.MethodName) jdk_42_method_149_code (6 : Nat) (Option.none : Option Jvm.ClassFile.FieldType), Jvm.Cond.code ({ cls := "java/lang/Object", name := "<init>", desc := "()V" } : Jvm.MethodName) object_method_1_code (1 : Nat) (Option.none : Option Jvm.ClassFile.FieldType), Jvm.Cond.code ({ cls := "com/example/endless_runs/endlessruns/hoa/HoaLexer$Token", name := "<init>", desc := "(Lcom/example/endless_runs/endlessruns/hoa/HoaLexer$Kind;Ljava/lang/String;III)V" } : Jvm.MethodName) prog_74_method_1_code (6 : Nat) (Option.none : Option Jvm.ClassFile.FieldType), Jvm.Cond.code ({ cls := "com/example/endless_runs/endlessruns/hoa/HoaLexer$Token", name := "is", desc := "(Lcom/example/endless_runs/endlessruns/hoa/HoaLexer$Kind;Ljava/lang/String;)Z" } : Jvm.MethodName) prog_74_method_5_code (3 : Nat) (Option.some Jvm.ClassFile.FieldType.boolean), Jvm.Cond.code ({ cls := "java/lang/String", name := "equals", desc := "(Ljava/lang/Object;)Z" } : Jvm.MethodName) jdk_42_method_66_code (3 : Nat) (Option.some Jvm.ClassFile.FieldType.boolean), Jvm.Cond.code ({ cls := "java/lang/StringLatin1", name := "equals", desc := "([B[B)Z" } : Jvm.MethodName) jdk_43_method_13_code (3 : Nat) (Option.some Jvm.ClassFile.FieldType.boolean), Jvm.Cond.code ({ cls := "java/lang/StringUTF16", name := "compress", desc := "([CII)[B" } : Jvm.MethodName) jdk_52_method_16_code (6 : Nat) (Option.some (Jvm.ClassFile.FieldType.array Jvm.ClassFile.FieldType.byte)), Jvm.Cond.code ({ cls := "java/lang/StringUTF16", name := "compress", desc := "([CI[BII)I" } : Jvm.MethodName) jdk_52_method_21_code (7 : Nat) (Option.some Jvm.ClassFile.FieldType.int), Jvm.Cond.code ({ cls := "java/lang/StringUTF16", name := "coderFromArrayLen", desc := "([BI)B" } : Jvm.MethodName) jdk_52_method_15_code (2 : Nat) (Option.some Jvm.ClassFile.FieldType.byte)]
set_option maxRecDepth 65536 in
theorem codes_eq : words1.filter isCode = codes1 := rfl
theorem w_codes : ∀ c ∈ words1.filter isCode, c.before args0 about1 = true := by
  rw [codes_eq]
  intro c hc
  simp only [codes1, List.mem_cons, List.not_mem_nil, or_false] at hc
  rcases hc with rfl | rfl | rfl | rfl | rfl | rfl | rfl | rfl | rfl | rfl | rfl | rfl | rfl
  · exact w_c0
  · exact w_c1
  · exact w_c2
  · exact w_c3
  · exact w_c4
  · exact w_c5
  · exact w_c6
  · exact w_c7
  · exact w_c8
  · exact w_c9
  · exact w_c10
  · exact w_c11
  · exact w_c12
set_option maxRecDepth 65536 in
theorem w_t1 : (words1.take 24).all (fun c => isCode c || c.before args0 about1) = true := by decide +kernel
set_option maxRecDepth 65536 in
theorem w_t2 : ((words1.drop 24).take 24).all (fun c => isCode c || c.before args0 about1) = true := by decide +kernel
set_option maxRecDepth 65536 in
theorem w_t3 : (((words1.drop 24).drop 24).take 24).all (fun c => isCode c || c.before args0 about1) = true := by decide +kernel
set_option maxRecDepth 65536 in
theorem w_t4 : ((((words1.drop 24).drop 24).drop 24).take 24).all (fun c => isCode c || c.before args0 about1) = true := by decide +kernel
set_option maxRecDepth 65536 in
theorem w_t5 : ((((words1.drop 24).drop 24).drop 24).drop 24).all (fun c => isCode c || c.before args0 about1) = true := by decide +kernel
theorem w_tables : (allAtoms (Jvm.Cond.code x code maxLocals ret :: tables_1)).before args0 about1 = true := by
  rw [allAtoms_all]
  show words1.all (fun c => c.before args0 about1) = true
  refine all_split ?_ w_codes
  rw [← List.take_append_drop 24 words1, List.all_append, w_t1, ← List.take_append_drop 24 (words1.drop 24), List.all_append, w_t2, ← List.take_append_drop 24 ((words1.drop 24).drop 24), List.all_append, w_t3, ← List.take_append_drop 24 (((words1.drop 24).drop 24).drop 24), List.all_append, w_t4, w_t5]
  rfl
set_option maxRecDepth 65536 in
theorem w_rest : rest_1_c.before args0 about1 = true := by decide +kernel
set_option maxRecDepth 65536 in
theorem w_case : (Jvm.Cond.and given_1 narrow_1).before args0 about1 = true := by decide +kernel
set_option maxRecDepth 65536 in
theorem w_consts : constsHeld consts_1 about1 := Jvm.Lit.constsHeldB_iff.mp (by decide +kernel)
theorem w_applies : (headSpec (Jvm.Cond.code x code maxLocals ret :: tables_1) room_1).applies x e0.platform about1 = true :=
  (Spec.applies_iff w_frames).mpr ⟨w_running, w_runnable, w_alone, w_named, w_hears, w_ripe, w_room, w_tables⟩
theorem atStart : AtStart classFile x code maxLocals ret World_1 tables_1 room_1 Calls_1 rest_1 Pre_1 launch0 p0 e0 about1 theMethod args0 below0 :=
  ⟨lists_1, trivial, launch0.admits_env _ _ _, launch0.least_env, fairChoices_fair.cas, fairChoices_fair.clock, w_frames, w_args, w_heap, w_applies, ⟨w_consts, trivial⟩, w_rest, w_case⟩
end start1
theorem witness_1 : WitnessClaimed_1 := ⟨start1.p0, start1.e0, start1.about1, start1.theMethod, start1.args0, start1.below0, start1.atStart⟩
end Jvm.Pilot.@@N@@
