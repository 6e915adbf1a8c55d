import JvmDerived
import JvmDerived.Pilot.@@N@@Statement
import JvmDerived.Pilot.@@N@@Code
set_option linter.unusedVariables false
set_option linter.unusedSimpArgs false
namespace Jvm.RoadKit
open Sem ClassFile Op Lib Jvm.Stand Jvm.Free Jvm.LawKit
section New
variable {p : Program} {l : Launch} {e : Env} {R : Room} {s : State} {m : MethodId} {args : Array Value} {below : List Frame} {meth : Method} {c : Code} {T : State} {locs : List Loc} {cells slots : Nat}
theorem retI (X : Stand p l e R s m args below meth c T locs cells slots) (hx : p.tables.exec = Jvm.exec) {pc : Nat} {Ls : Array Slot} {z : Int32} {rest : List Value} (hret : meth.sig.returnType = some .int) (hd : decode c.code pc = .ok (.ireturn, 1)) {fs : List Frame}
    (hl : ∀ (f : JFrame) (acts : List Action), f.method = m → f.locked = none → f.entered = [] → (doReturn e (T.setTop f) acts (some (.int z))).1 = T.setFrames fs) : Steps p.tables e below (T.setTop (mkF m pc Ls (.int z :: rest))) (T.setFrames fs) := by
  have hm' : T.vm.method? m = some meth := X.method'
  have hn : narrow .int (.int z) = .int z := rfl
  show Steps p.tables e below (T.setTop { method := m, pc := pc, locals := Ls, stack := _ :: rest, locked := none }) _
  jvm_step X.here [X.here.top, hx, hd, hm', hret, hn]
  first | (intro acts; rw [hl _ acts rfl rfl rfl]) | rw [hl _ _ rfl rfl rfl]
  exact Steps.refl _
end New
end Jvm.RoadKit
@@BLOCK:NumsL.lean.txt@@
@@BLOCK:SetKit.lean.txt@@
/- laws to paste: Road.backV (cut by pick.py; bodies as the Statement names them) -/
namespace Jvm.Pilot.@@N@@
namespace StrChars
open Jvm Sem ClassFile Op Lib Jvm.Stand Jvm.Free.XT Jvm.Free.ALB Jvm.Free.JM Jvm.Free
open Jvm.Lib.Cold (StaticIs)
def Ch (a : Addr) (A : Cell) (U : State) : Prop := Arr .char a A U ∧ Typed .char A
theorem Ch.mv {a : Addr} {A : Cell} {U U' : State} (h : Ch a A U) (hal : U.vm.Alike U'.vm) (hh : U'.heap = U.heap) : Ch a A U' := ⟨h.1.mv hal hh, h.2⟩
theorem Ch.keep {a : Addr} {A : Cell} {U U' : State} (h : Ch a A U) (hal : U.vm.Alike U'.vm) (hk : U'.heap[a]? = some A) : Ch a A U' := ⟨h.1.keep hal hk, h.2⟩
def cv (A : Cell) (i : Nat) : Int32 := match A.slots[i]? with | some (.int x) => x | _ => 0
theorem Ch.get {a : Addr} {A : Cell} {U : State} (h : Ch a A U) {i : Nat} (hi : i < A.slots.size) : A.slots[i]? = some (.int (cv A i)) := by
  have e := Array.getElem?_eq_getElem hi
  have f := h.2 i _ e
  unfold cv; rw [e]
  generalize A.slots[i] = v at f
  cases v <;> simp [fits] at f ⊢
def lo8 (x : Int32) : Int32 := x.toInt8.toInt32
theorem fits_lo8 (y : Int32) : fits .byte (.int (lo8 y)) = true := by
  have h1 := y.toInt8.le_toInt
  have h2 := y.toInt8.toInt_lt
  simp only [lo8, fits, Bool.and_eq_true, decide_eq_true_eq, Int32.le_iff_toInt_le, Int8.toInt_toInt32, show (-128 : Int32).toInt = -128 from by decide, show (127 : Int32).toInt = 127 from by decide]
  omega
def Laid (A A' : Cell) (lo hi : Nat) (f : Nat → Value) : Prop := A'.cls = A.cls ∧ A'.vm = A.vm ∧ A'.slots.size = A.slots.size ∧ ∀ i, A'.slots[i]? = if lo ≤ i ∧ i < hi then some (f i) else A.slots[i]?
theorem Laid.zero (A : Cell) (lo : Nat) (f : Nat → Value) : Laid A A lo (lo + 0) f := ⟨rfl, rfl, rfl, fun i => by rw [if_neg (by omega)]⟩
theorem Laid.step {A Ak : Cell} {lo k : Nat} {f : Nat → Value} {v : Value} (h : Laid A Ak lo k f) (hlo : lo ≤ k) (hk : k < Ak.slots.size) (hv : v = f k) : Laid A (Ak.setSlot k v) lo (k + 1) f := by
  refine ⟨h.1, h.2.1, by simpa [Cell.setSlot] using h.2.2.1, fun i => ?_⟩
  by_cases e : k = i
  · subst e; rw [Cell.slots_setSlot_self v hk, if_pos (by omega), hv]
  · rw [Cell.slots_setSlot_ne v e, h.2.2.2 i]
    by_cases q : lo ≤ i ∧ i < k
    · rw [if_pos q, if_pos (by omega)]
    · rw [if_neg q, if_neg (by omega)]
def U16 : String := "java/lang/StringUTF16"
namespace Cmp5
def yN : MethodName := ⟨"java/lang/StringUTF16", "compress", "([CI[BII)I"⟩
abbrev yB : ByteArray := jdk_52_method_21_code
theorem d0 : decode yB 0 = .ok (.iconst 0, 1) := by decide +kernel
theorem d1 : decode yB 1 = .ok (.istore 5, 2) := by decide +kernel
theorem d3 : decode yB 3 = .ok (.iload 5, 2) := by decide +kernel
theorem d5 : decode yB 5 = .ok (.iload 4, 2) := by decide +kernel
theorem d7 : decode yB 7 = .ok (.if_icmp (.ge) 37, 3) := by decide +kernel
theorem d10 : decode yB 10 = .ok (.aload_n 0, 1) := by decide +kernel
theorem d11 : decode yB 11 = .ok (.iload_n 1, 1) := by decide +kernel
theorem d12 : decode yB 12 = .ok (.caload, 1) := by decide +kernel
theorem d13 : decode yB 13 = .ok (.istore 6, 2) := by decide +kernel
theorem d15 : decode yB 15 = .ok (.iload 6, 2) := by decide +kernel
theorem d17 : decode yB 17 = .ok (.sipush 255, 3) := by decide +kernel
theorem d20 : decode yB 20 = .ok (.if_icmp (.le) 6, 3) := by decide +kernel
theorem d26 : decode yB 26 = .ok (.aload_n 2, 1) := by decide +kernel
theorem d27 : decode yB 27 = .ok (.iload_n 3, 1) := by decide +kernel
theorem d28 : decode yB 28 = .ok (.iload 6, 2) := by decide +kernel
theorem d30 : decode yB 30 = .ok (.i2b, 1) := by decide +kernel
theorem d31 : decode yB 31 = .ok (.bastore, 1) := by decide +kernel
theorem d32 : decode yB 32 = .ok (.iinc 1 1, 3) := by decide +kernel
theorem d35 : decode yB 35 = .ok (.iinc 3 1, 3) := by decide +kernel
theorem d38 : decode yB 38 = .ok (.iinc 5 1, 3) := by decide +kernel
theorem d41 : decode yB 41 = .ok (.goto (-38), 3) := by decide +kernel
theorem d44 : decode yB 44 = .ok (.iload 4, 2) := by decide +kernel
theorem d46 : decode yB 46 = .ok (.ireturn, 1) := by decide +kernel
def site : List Cond := []
def tab : Cond := tabOf yN yB 7 (some .int) site
def P (b : Addr) (A : Cell) (d : Addr) (B : Cell) (o q len : Nat) (args : Array Value) (s : State) : Prop := args = #[.ref b, .int (Int32.ofNat o), .ref d, .int (Int32.ofNat q), .int (Int32.ofNat len)] ∧ Ch b A s ∧ Arr .byte d B s ∧ b ≠ d ∧ o + len ≤ A.slots.size ∧ q + len ≤ B.slots.size ∧ ∀ i, i < len → ¬ 255 < cv A (o + i)
def E (b : Addr) (A : Cell) (d : Addr) (B : Cell) (o q len : Nat) (r : Option Value) (s u : State) : Prop := r = some (.int (Int32.ofNat len)) ∧ ∃ B', Put d B' s u ∧ Laid B B' q (q + len) (fun j => Value.int (lo8 (cv A (o + (j - q)))))
theorem law (l : Launch) (b : Addr) (A : Cell) (d : Addr) (B : Cell) (o q len : Nat) : Law l yN 5 5 0 0 yB 7 (some .int) site (P b A d B o q len) (E b A d B o q len) (copyLocs d q len) 0 0 := by
  refine Law.of_walk (plainFor_of_name (by decide +kernel)) (by decide +kernel) (by decide +kernel) (by decide) (fun _ _ h => by rw [h.1]; rfl) (fun _ U U' hal hh h => ⟨h.1, h.2.1.mv hal hh, h.2.2.1.mv hal hh, h.2.2.2⟩) (fun r U U' V V' h1 hal h2 h => ⟨h.1, h.2.elim fun B' q => ⟨B', q.1.mv h1 h2, q.2⟩⟩) ?_
  intro p e s m args below meth c s₁ X0 hexec hbytes hml hret hlk hnm hown hh0 W hP
  obtain ⟨rfl, hA, hB, hne, l1, l2, hp⟩ := hP
  have c1 : Steps p.tables e below (s₁.setTop (entryFrame m #[.ref b, .int (Int32.ofNat o), .ref d, .int (Int32.ofNat q), .int (Int32.ofNat len)] 7)) (s₁.setTop (mkF m 0 #[.val (.ref b), .val (.int (Int32.ofNat o)), .val (.ref d), .val (.int (Int32.ofNat q)), .val (.int (Int32.ofNat len)), .unset, .unset] [])) := entry rfl
  have hA0 := hA.1.mv X0.warmed.alike hh0
  have hB0 := hB.mv X0.warmed.alike hh0
  have a31 := hA.1.2.2.2
  have c2 : Steps p.tables e below (s₁.setTop (entryFrame m #[.ref b, .int (Int32.ofNat o), .ref d, .int (Int32.ofNat q), .int (Int32.ofNat len)] 7)) (s₁.setTop (mkF m 3 #[.val (.ref b), .val (.int (Int32.ofNat o)), .val (.ref d), .val (.int (Int32.ofNat q)), .val (.int (Int32.ofNat len)), .val (.int 0), .unset] [])) := c1.trans (by
    refine iconstV X0.here hexec rfl 0 (hb hbytes d0) (by decide) ?_
    refine XS.istore X0.here hexec rfl (hb hbytes d1) rfl rfl ?_
    exact Steps.refl _)
  have loop : ∀ (r i : Nat), i + r = len → ∀ (z : Slot), (z = .unset ∨ ∃ w, z = .val w ∧ w.category = 1) → ∀ (Tl : State) (Bk : Cell), Stand p l e { frames := 0, locals := 0, cells := 0, slots := 0 } s m #[.ref b, .int (Int32.ofNat o), .ref d, .int (Int32.ofNat q), .int (Int32.ofNat len)] below meth c Tl ([] ++ copyLocs d q i) 0 0 → Put d Bk s₁ Tl → Laid B Bk q (q + i) (fun j => Value.int (lo8 (cv A (o + (j - q))))) →
      Steps p.tables e below (s₁.setTop (entryFrame m #[.ref b, .int (Int32.ofNat o), .ref d, .int (Int32.ofNat q), .int (Int32.ofNat len)] 7)) (Tl.setTop (mkF m 3 #[.val (.ref b), .val (.int (Int32.ofNat (o + i))), .val (.ref d), .val (.int (Int32.ofNat (q + i))), .val (.int (Int32.ofNat len)), .val (.int (Int32.ofNat i)), z] [])) → ∃ (T' : State) (B' : Cell) (z' : Slot), Stand p l e { frames := 0, locals := 0, cells := 0, slots := 0 } s m #[.ref b, .int (Int32.ofNat o), .ref d, .int (Int32.ofNat q), .int (Int32.ofNat len)] below meth c T' ([] ++ copyLocs d q len) 0 0 ∧ Put d B' s₁ T' ∧ Laid B B' q (q + len) (fun j => Value.int (lo8 (cv A (o + (j - q))))) ∧
      Steps p.tables e below (s₁.setTop (entryFrame m #[.ref b, .int (Int32.ofNat o), .ref d, .int (Int32.ofNat q), .int (Int32.ofNat len)] 7)) (T'.setTop (mkF m 3 #[.val (.ref b), .val (.int (Int32.ofNat (o + len))), .val (.ref d), .val (.int (Int32.ofNat (q + len))), .val (.int (Int32.ofNat len)), .val (.int (Int32.ofNat len)), z'] [])) := by
    intro r
    induction r with
    | zero =>
      intro i hi z hz Tl Bk Xl pl fl cl
      have hil : i = len := by omega
      rw [hil] at Xl fl cl
      exact ⟨Tl, Bk, z, Xl, pl, fl, cl⟩
    | succ r ih =>
      intro i hi z hz Tl Bk Xl pl fl cl
      have all := X0.warmed.alike.symm.trans Xl.warmed.alike
      have hAl := hA0.keep all (pl.other hne hA0.1)
      have hBk := hB0.like all pl.1 fl.1 fl.2.1 fl.2.2.1
      have hlt : q + i < Bk.slots.size := by rw [fl.2.2.1]; omega
      have c3 : Steps p.tables e below (s₁.setTop (entryFrame m #[.ref b, .int (Int32.ofNat o), .ref d, .int (Int32.ofNat q), .int (Int32.ofNat len)] 7)) (Tl.setTop (mkF m 12 #[.val (.ref b), .val (.int (Int32.ofNat (o + i))), .val (.ref d), .val (.int (Int32.ofNat (q + i))), .val (.int (Int32.ofNat len)), .val (.int (Int32.ofNat i)), z] [.int (Int32.ofNat (o + i)), .ref b])) := cl.trans (by
        refine XS.iload Xl.here hexec rfl (hb hbytes d3) rfl ?_
        refine XS.iload Xl.here hexec rfl (hb hbytes d5) rfl ?_
        refine XS.icmpNo Xl.here hexec rfl (hb hbytes d7) rfl (ii_ge_f (lt32 (by omega) (by omega))) ?_
        refine XS.aloadN Xl.here hexec rfl (hb hbytes d10) rfl rfl ?_
        refine XS.iloadN Xl.here hexec rfl (hb hbytes d11) rfl ?_
        exact Steps.refl _)
      have c4 : Steps p.tables e below (s₁.setTop (entryFrame m #[.ref b, .int (Int32.ofNat o), .ref d, .int (Int32.ofNat q), .int (Int32.ofNat len)] 7)) (Tl.setTop (mkF m 13 #[.val (.ref b), .val (.int (Int32.ofNat (o + i))), .val (.ref d), .val (.int (Int32.ofNat (q + i))), .val (.int (Int32.ofNat len)), .val (.int (Int32.ofNat i)), z] [.int (cv A (o + i))])) := c3.trans (by
        refine Xl.aget hexec hAl rfl (hA.get (i := o + i) (by omega)) rfl rfl (hb hbytes d12) ?_
        exact Steps.refl _)
      have c5 : Steps p.tables e below (s₁.setTop (entryFrame m #[.ref b, .int (Int32.ofNat o), .ref d, .int (Int32.ofNat q), .int (Int32.ofNat len)] 7)) (Tl.setTop (mkF m 15 #[.val (.ref b), .val (.int (Int32.ofNat (o + i))), .val (.ref d), .val (.int (Int32.ofNat (q + i))), .val (.int (Int32.ofNat len)), .val (.int (Int32.ofNat i)), .val (.int (cv A (o + i)))] [])) := c4.trans (by
        refine XS.istoreS Xl.here hexec rfl (hb hbytes d13) rfl rfl hz ?_
        exact Steps.refl _)
      have c6 : Steps p.tables e below (s₁.setTop (entryFrame m #[.ref b, .int (Int32.ofNat o), .ref d, .int (Int32.ofNat q), .int (Int32.ofNat len)] 7)) (Tl.setTop (mkF m 31 #[.val (.ref b), .val (.int (Int32.ofNat (o + i))), .val (.ref d), .val (.int (Int32.ofNat (q + i))), .val (.int (Int32.ofNat len)), .val (.int (Int32.ofNat i)), .val (.int (cv A (o + i)))] [.int (lo8 (cv A (o + i))), .int (Int32.ofNat (q + i)), .ref d])) := c5.trans (by
        refine XS.iload Xl.here hexec rfl (hb hbytes d15) rfl ?_
        refine sipushV Xl.here hexec rfl 255 (hb hbytes d17) (by decide) ?_
        refine XS.icmpYes Xl.here hexec rfl (pc0 := 20) rfl (hb hbytes d20) rfl (ii_le_t (hp i (by omega))) (by decide) rfl ?_
        refine XS.aloadN Xl.here hexec rfl (hb hbytes d26) rfl rfl ?_
        refine XS.iloadN Xl.here hexec rfl (hb hbytes d27) rfl ?_
        refine XS.iload Xl.here hexec rfl (hb hbytes d28) rfl ?_
        refine i2b Xl.here hexec rfl (hb hbytes d30) rfl ?_
        exact Steps.refl _)
      obtain ⟨T7, X7, p7, st7⟩ := Xl.aput hexec hBk rfl hlt rfl (fits_lo8 (cv A (o + i))) (g := (mkF m 31 #[.val (.ref b), .val (.int (Int32.ofNat (o + i))), .val (.ref d), .val (.int (Int32.ofNat (q + i))), .val (.int (Int32.ofNat len)), .val (.int (Int32.ofNat i)), .val (.int (cv A (o + i)))] [.int (lo8 (cv A (o + i))), .int (Int32.ofNat (q + i)), .ref d])) rfl (rest := []) rfl (hb hbytes d31)
      have c8 : Steps p.tables e below (s₁.setTop (entryFrame m #[.ref b, .int (Int32.ofNat o), .ref d, .int (Int32.ofNat q), .int (Int32.ofNat len)] 7)) (T7.setTop (mkF m 32 #[.val (.ref b), .val (.int (Int32.ofNat (o + i))), .val (.ref d), .val (.int (Int32.ofNat (q + i))), .val (.int (Int32.ofNat len)), .val (.int (Int32.ofNat i)), .val (.int (cv A (o + i)))] [])) := c6.trans (st7 _ (Steps.refl _))
      have c9 : Steps p.tables e below (s₁.setTop (entryFrame m #[.ref b, .int (Int32.ofNat o), .ref d, .int (Int32.ofNat q), .int (Int32.ofNat len)] 7)) (T7.setTop (mkF m 3 #[.val (.ref b), .val (.int (Int32.ofNat (o + i) + 1)), .val (.ref d), .val (.int (Int32.ofNat (q + i) + 1)), .val (.int (Int32.ofNat len)), .val (.int (Int32.ofNat i + 1)), .val (.int (cv A (o + i)))] [])) := c8.trans (by
        refine iincV X7.here hexec rfl 1 (hb hbytes d32) (by decide) rfl rfl ?_
        refine iincV X7.here hexec rfl 1 (hb hbytes d35) (by decide) rfl rfl ?_
        refine iincV X7.here hexec rfl 1 (hb hbytes d38) (by decide) rfl rfl ?_
        refine XS.goto X7.here hexec rfl (pc0 := 41) rfl (hb hbytes d41) (by decide) rfl ?_
        exact Steps.refl _)
      have c10 : Steps p.tables e below (s₁.setTop (entryFrame m #[.ref b, .int (Int32.ofNat o), .ref d, .int (Int32.ofNat q), .int (Int32.ofNat len)] 7)) (T7.setTop (mkF m 3 #[.val (.ref b), .val (.int (Int32.ofNat (o + (i + 1)))), .val (.ref d), .val (.int (Int32.ofNat (q + (i + 1)))), .val (.int (Int32.ofNat len)), .val (.int (Int32.ofNat (i + 1))), .val (.int (cv A (o + i)))] [])) := by
        have := c9
        rw [succ32, succ32, succ32] at this
        exact this
      exact ih (i + 1) (by omega) _ (Or.inr ⟨_, rfl, rfl⟩) T7 _ (by rw [copyLocs_step, ← List.append_assoc]; exact X7) (pl.trans p7) (fl.step (by omega) hlt (by simp)) c10
  obtain ⟨T9, B9, z9, X9, p9, f9, g9⟩ := loop len 0 (by omega) .unset (Or.inl rfl) s₁ B (by simpa [copyLocs] using X0) ⟨hB0.1, fun _ _ => rfl, rfl⟩ (Laid.zero _ _ _) c2
  have c11 : Steps p.tables e below (s₁.setTop (entryFrame m #[.ref b, .int (Int32.ofNat o), .ref d, .int (Int32.ofNat q), .int (Int32.ofNat len)] 7)) (T9.setTop (mkF m 46 #[.val (.ref b), .val (.int (Int32.ofNat (o + len))), .val (.ref d), .val (.int (Int32.ofNat (q + len))), .val (.int (Int32.ofNat len)), .val (.int (Int32.ofNat len)), z9] [.int (Int32.ofNat len)])) := g9.trans (by
    refine XS.iload X9.here hexec rfl (hb hbytes d3) rfl ?_
    refine XS.iload X9.here hexec rfl (hb hbytes d5) rfl ?_
    refine XS.icmpYes X9.here hexec rfl (pc0 := 7) rfl (hb hbytes d7) rfl (ii_ge_t (nlt32 (by omega) (Nat.le_refl _))) (by decide) rfl ?_
    refine XS.iload X9.here hexec rfl (hb hbytes d44) rfl ?_
    exact Steps.refl _)
  exact ⟨T9, some (.int (Int32.ofNat len)), _, _, _, X9, by simp, rfl, rfl, (fun h => by cases h), ⟨rfl, B9, p9.from hh0, f9⟩, fun fs hl => c11.trans (X9.ireturnOut hexec hret rfl (Or.inl rfl) (hb hbytes d46) hl)⟩
end Cmp5
namespace Cmp3
def yN : MethodName := ⟨"java/lang/StringUTF16", "compress", "([CII)[B"⟩
abbrev yB : ByteArray := jdk_52_method_16_code
theorem d0 : decode yB 0 = .ok (.iload_n 2, 1) := by decide +kernel
theorem d1 : decode yB 1 = .ok (.newarray .byte, 2) := by decide +kernel
theorem d3 : decode yB 3 = .ok (.astore_n 3, 1) := by decide +kernel
theorem d4 : decode yB 4 = .ok (.aload_n 0, 1) := by decide +kernel
theorem d5 : decode yB 5 = .ok (.iload_n 1, 1) := by decide +kernel
theorem d6 : decode yB 6 = .ok (.aload_n 3, 1) := by decide +kernel
theorem d7 : decode yB 7 = .ok (.iconst 0, 1) := by decide +kernel
theorem d8 : decode yB 8 = .ok (.iload_n 2, 1) := by decide +kernel
theorem d9 : decode yB 9 = .ok (.invokestatic 115, 3) := by decide +kernel
theorem d12 : decode yB 12 = .ok (.istore 4, 2) := by decide +kernel
theorem d14 : decode yB 14 = .ok (.iload 4, 2) := by decide +kernel
theorem d16 : decode yB 16 = .ok (.iload_n 2, 1) := by decide +kernel
theorem d17 : decode yB 17 = .ok (.if_icmp (.eq) 40, 3) := by decide +kernel
theorem d57 : decode yB 57 = .ok (.aload_n 3, 1) := by decide +kernel
theorem d58 : decode yB 58 = .ok (.areturn, 1) := by decide +kernel
def site : List Cond := [.arrayClass .byte, Cmp5.tab] ++ staticW U16 115 Cmp5.yN
def tab : Cond := tabOf yN yB 6 (some (.array .byte)) site
def P (b : Addr) (A : Cell) (o len : Nat) (args : Array Value) (s : State) : Prop := args = #[.ref b, .int (Int32.ofNat o), .int (Int32.ofNat len)] ∧ Ch b A s ∧ o + len ≤ A.slots.size ∧ len ≤ 536870912 ∧ ∀ i, i < len → ¬ 255 < cv A (o + i)
def E (b : Addr) (A : Cell) (o len : Nat) (r : Option Value) (s u : State) : Prop := NewArr .byte "[B" len (fun j => .int (lo8 (cv A (o + j)))) r s u ∧ u.heap.size = s.heap.size + 1
theorem law (l : Launch) (b : Addr) (A : Cell) (o len : Nat) : Law l yN 3 3 1 18 yB 6 (some (.array .byte)) site (P b A o len) (E b A o len) [] 1 len := by
  refine Law.of_walk (plainFor_of_name (by decide +kernel)) (by decide +kernel) (by decide +kernel) (by decide) (fun _ _ h => by rw [h.1]; rfl) (fun _ U U' hal hh h => ⟨h.1, h.2.1.mv hal hh, h.2.2⟩) (fun r U U' V V' h1 hal h2 h => ⟨NewArr.mv r U U' V V' h1 hal h2 h.1, by rw [h1, h2]; exact h.2⟩) ?_
  intro p e s m args below meth c s₁ X0 hexec hbytes hml hret hlk hnm hown hh0 W hP
  obtain ⟨rfl, hA, l1, l2, hp⟩ := hP
  have a31 := hA.1.2.2.2
  have c1 : Steps p.tables e below (s₁.setTop (entryFrame m #[.ref b, .int (Int32.ofNat o), .int (Int32.ofNat len)] 6)) (s₁.setTop (mkF m 0 #[.val (.ref b), .val (.int (Int32.ofNat o)), .val (.int (Int32.ofNat len)), .unset, .unset, .unset] [])) := entry rfl
  have c2 : Steps p.tables e below (s₁.setTop (entryFrame m #[.ref b, .int (Int32.ofNat o), .int (Int32.ofNat len)] 6)) (s₁.setTop (mkF m 1 #[.val (.ref b), .val (.int (Int32.ofNat o)), .val (.int (Int32.ofNat len)), .unset, .unset, .unset] [.int (Int32.ofNat len)])) := c1.trans (by
    refine XS.iloadN X0.here hexec rfl (hb hbytes d0) rfl ?_
    exact Steps.refl _)
  obtain ⟨T3, B3, X3, ba3, bs3, bv3, bh3, bf3, st3⟩ := X0.anew hexec (atype := .byte) (wk W (.arrayClass .byte)) rfl (by show len * 1 ≤ _; omega) (by omega) (g := (mkF m 1 #[.val (.ref b), .val (.int (Int32.ofNat o)), .val (.int (Int32.ofNat len)), .unset, .unset, .unset] [.int (Int32.ofNat len)])) rfl (hb hbytes d1) (rest := []) rfl (Nat.le_refl _) (by show 0 + len ≤ len; omega)
  rw [hh0] at ba3 st3
  have kp3 : XT.Kept s T3 := (XT.Kept.of_eq hh0).push bh3
  have hA3 := hA.keep X3.warmed.alike (kp3 _ _ hA.1.1)
  have hne : b ≠ s.heap.size := hA.1.ne
  have c4 : Steps p.tables e below (s₁.setTop (entryFrame m #[.ref b, .int (Int32.ofNat o), .int (Int32.ofNat len)] 6)) (T3.setTop (mkF m 3 #[.val (.ref b), .val (.int (Int32.ofNat o)), .val (.int (Int32.ofNat len)), .unset, .unset, .unset] [.ref s.heap.size])) := c2.trans (st3 _ (Steps.refl _))
  have c5 : Steps p.tables e below (s₁.setTop (entryFrame m #[.ref b, .int (Int32.ofNat o), .int (Int32.ofNat len)] 6)) (T3.setTop (mkF m 9 #[.val (.ref b), .val (.int (Int32.ofNat o)), .val (.int (Int32.ofNat len)), .val (.ref s.heap.size), .unset, .unset] [.int (Int32.ofNat len), .int 0, .ref s.heap.size, .int (Int32.ofNat o), .ref b])) := c4.trans (by
    refine XS.astoreN X3.here hexec rfl (hb hbytes d3) rfl rfl rfl ?_
    refine XS.aloadN X3.here hexec rfl (hb hbytes d4) rfl rfl ?_
    refine XS.iloadN X3.here hexec rfl (hb hbytes d5) rfl ?_
    refine XS.aloadN X3.here hexec rfl (hb hbytes d6) rfl rfl ?_
    refine iconstV X3.here hexec rfl 0 (hb hbytes d7) (by decide) ?_
    refine XS.iloadN X3.here hexec rfl (hb hbytes d8) rfl ?_
    exact Steps.refl _)
  obtain ⟨v6, T6, X6, E6, g6⟩ := X3.callS hexec (Cmp5.law l b A s.heap.size B3 o 0 len) hown (wks W (staticW U16 115 Cmp5.yN)) (wk W Cmp5.tab) (W := 0) (Nat.le_of_ble_eq_true rfl) (Nat.le_of_ble_eq_true rfl) (Nat.le_refl _) (by show 0 + len + 0 ≤ len; omega) (g := (mkF m 9 #[.val (.ref b), .val (.int (Int32.ofNat o)), .val (.int (Int32.ofNat len)), .val (.ref s.heap.size), .unset, .unset] [.int (Int32.ofNat len), .int (Int32.ofNat 0), .ref s.heap.size, .int (Int32.ofNat o), .ref b])) rfl (by rw [hml]; rfl) c5 (argsL := [.ref b, .int (Int32.ofNat o), .ref s.heap.size, .int (Int32.ofNat 0), .int (Int32.ofNat len)]) (rest := []) rfl rfl (by show 2 * 0 + 0 ≤ _; decide) (hb hbytes d9) (⟨rfl, hA3, ba3, hne, l1, by rw [bs3]; simp, hp⟩)
  obtain ⟨rfl, B6, p6, f6⟩ := E6
  have c7 : Steps p.tables e below (s₁.setTop (entryFrame m #[.ref b, .int (Int32.ofNat o), .int (Int32.ofNat len)] 6)) (T6.setTop (mkF m 12 #[.val (.ref b), .val (.int (Int32.ofNat o)), .val (.int (Int32.ofNat len)), .val (.ref s.heap.size), .unset, .unset] [.int (Int32.ofNat len)])) := g6
  have c8 : Steps p.tables e below (s₁.setTop (entryFrame m #[.ref b, .int (Int32.ofNat o), .int (Int32.ofNat len)] 6)) (T6.setTop (mkF m 58 #[.val (.ref b), .val (.int (Int32.ofNat o)), .val (.int (Int32.ofNat len)), .val (.ref s.heap.size), .val (.int (Int32.ofNat len)), .unset] [.ref s.heap.size])) := c7.trans (by
    refine XS.istore X6.here hexec rfl (hb hbytes d12) rfl rfl ?_
    refine XS.iload X6.here hexec rfl (hb hbytes d14) rfl ?_
    refine XS.iloadN X6.here hexec rfl (hb hbytes d16) rfl ?_
    refine XS.icmpYes X6.here hexec rfl (pc0 := 17) rfl (hb hbytes d17) rfl (ii_eq_t rfl) (by decide) rfl ?_
    refine XS.aloadN X6.here hexec rfl (hb hbytes d57) rfl rfl ?_
    exact Steps.refl _)
  have X8 := X6.wide (L' := []) (cells' := 1) (slots' := len) (fun x hx hlt => by
    simp only [List.nil_append, copyLocs, List.mem_map, List.mem_range] at hx
    obtain ⟨i, -, rfl⟩ := hx
    exact absurd hlt (Nat.lt_irrefl _)) (Nat.le_refl _) (by omega)
  exact ⟨T6, some (.ref s.heap.size), _, _, _, X8, rfl, rfl, rfl, (fun h => by cases h), ⟨⟨rfl, B6, ba3.like (X3.warmed.alike.symm.trans X6.warmed.alike) p6.1 f6.1 f6.2.1 f6.2.2.1, f6.2.1.trans bv3, by rw [X6.warmed.alike.findClass, f6.1]; exact bf3, by rw [f6.2.2.1, bs3]; simp, fun j hj => by rw [f6.2.2.2 j, if_pos (by omega)]; rfl, kp3.put p6 (Nat.le_refl _)⟩, by rw [p6.2.2, bh3, hh0]; simp⟩, fun fs hl => c8.trans (X8.areturnOut hexec rfl hret rfl (hb hbytes d58) hl)⟩
end Cmp3
namespace CodL
def yN : MethodName := ⟨"java/lang/StringUTF16", "coderFromArrayLen", "([BI)B"⟩
abbrev yB : ByteArray := jdk_52_method_15_code
theorem d0 : decode yB 0 = .ok (.iload_n 1, 1) := by decide +kernel
theorem d1 : decode yB 1 = .ok (.aload_n 0, 1) := by decide +kernel
theorem d2 : decode yB 2 = .ok (.arraylength, 1) := by decide +kernel
theorem d3 : decode yB 3 = .ok (.isub, 1) := by decide +kernel
theorem d4 : decode yB 4 = .ok (.bipush 31, 2) := by decide +kernel
theorem d6 : decode yB 6 = .ok (.iushr, 1) := by decide +kernel
theorem d7 : decode yB 7 = .ok (.i2b, 1) := by decide +kernel
theorem d8 : decode yB 8 = .ok (.ireturn, 1) := by decide +kernel
def site : List Cond := []
def tab : Cond := tabOf yN yB 2 (some .byte) site
def P (d : Addr) (B : Cell) (args : Array Value) (s : State) : Prop := args = #[.ref d, .int (Int32.ofNat B.slots.size)] ∧ Arr .byte d B s
def E (r : Option Value) (s u : State) : Prop := XT.PureE (some (.int 0)) r s u
theorem law (l : Launch) (d : Addr) (B : Cell) : Law l yN 2 2 0 0 yB 2 (some .byte) site (P d B) E [] 0 0 := by
  refine Law.of_walk (plainFor_of_name (by decide +kernel)) (by decide +kernel) (by decide +kernel) (by decide) (fun _ _ h => by rw [h.1]; rfl) (fun _ U U' hal hh h => ⟨h.1, h.2.mv hal hh⟩) (fun r U U' V V' h1 hal h2 h => XT.PureE.mv r U U' V V' h1 hal h2 h) ?_
  intro p e s m args below meth c s₁ X0 hexec hbytes hml hret hlk hnm hown hh0 W hP
  obtain ⟨rfl, hB⟩ := hP
  have hB0 := hB.mv X0.warmed.alike hh0
  have c1 : Steps p.tables e below (s₁.setTop (entryFrame m #[.ref d, .int (Int32.ofNat B.slots.size)] 2)) (s₁.setTop (mkF m 0 #[.val (.ref d), .val (.int (Int32.ofNat B.slots.size))] [])) := entry rfl
  have c2 : Steps p.tables e below (s₁.setTop (entryFrame m #[.ref d, .int (Int32.ofNat B.slots.size)] 2)) (s₁.setTop (mkF m 2 #[.val (.ref d), .val (.int (Int32.ofNat B.slots.size))] [.ref d, .int (Int32.ofNat B.slots.size)])) := c1.trans (by
    refine XS.iloadN X0.here hexec rfl (hb hbytes d0) rfl ?_
    refine XS.aloadN X0.here hexec rfl (hb hbytes d1) rfl rfl ?_
    exact Steps.refl _)
  have c3 : Steps p.tables e below (s₁.setTop (entryFrame m #[.ref d, .int (Int32.ofNat B.slots.size)] 2)) (s₁.setTop (mkF m 8 #[.val (.ref d), .val (.int (Int32.ofNat B.slots.size))] [.int (lo8 (ushr (Int32.ofNat B.slots.size - Int32.ofNat B.slots.size) 31))])) := c2.trans (by
    refine X0.alen hexec hB0 rfl rfl (hb hbytes d2) ?_
    refine XS.isub X0.here hexec rfl (hb hbytes d3) rfl ?_
    refine bipushV X0.here hexec rfl 31 (hb hbytes d4) (by decide) ?_
    refine iushr X0.here hexec rfl (hb hbytes d6) rfl ?_
    refine i2b X0.here hexec rfl (hb hbytes d7) rfl ?_
    exact Steps.refl _)
  have e0 : lo8 (ushr (Int32.ofNat B.slots.size - Int32.ofNat B.slots.size) 31) = 0 := by rw [Int32.sub_self]; decide
  rw [e0] at c3
  exact ⟨s₁, some (.int 0), _, _, _, X0, rfl, rfl, rfl, (fun h => by cases h), ⟨rfl, hh0⟩, fun fs hl => c3.trans (X0.ireturnOut hexec hret rfl (Or.inr (Or.inr (Or.inl rfl))) (hb hbytes d8) hl)⟩
end CodL
def Got (a : Addr) (D : Cell) (fV fC : Field) (A : Cell) (o len : Nat) (r : Option Value) (s u : State) : Prop := r = none ∧ ∃ D' V : Cell, Blank "java/lang/String" a D' u ∧ Same D D' [fV.slot, fC.slot] ∧ D'.slots[fV.slot]? = some (.ref s.heap.size) ∧ D'.slots[fC.slot]? = some (.int 0) ∧ Arr .byte s.heap.size V u ∧ V.vm = .none ∧ u.vm.findClass "[B" = some V.cls ∧ V.slots.size = len ∧ (∀ j, j < len → V.slots[j]? = some (.int (lo8 (cv A (o + j))))) ∧ (∀ (y : Addr) (c : Cell), y ≠ a → s.heap[y]? = some c → u.heap[y]? = some c) ∧ u.heap.size = s.heap.size + 1
theorem Got.mv {a : Addr} {D A : Cell} {fV fC : Field} {o len : Nat} : ∀ r (U U' V V' : State), U'.heap = U.heap → V.vm.Alike V'.vm → V'.heap = V.heap → Got a D fV fC A o len r U V → Got a D fV fC A o len r U' V' :=
  fun r U U' V V' h1 hal h2 ⟨e0, D', X, a1, a2, a3, a4, a5, a6, a7, a8, a9, a10, a11⟩ => ⟨e0, D', X, a1.mv hal h2, a2, by rw [h1]; exact a3, a4, by rw [h1]; exact a5.mv hal h2, a6, by rw [hal.findClass]; exact a7, a8, a9, by rw [h1, h2]; exact a10, by rw [h1, h2]; exact a11⟩
namespace New4
def yN : MethodName := ⟨"java/lang/String", "<init>", "([CIILjava/lang/Void;)V"⟩
abbrev yB : ByteArray := jdk_42_method_149_code
theorem d0 : decode yB 0 = .ok (.aload_n 0, 1) := by decide +kernel
theorem d1 : decode yB 1 = .ok (.invokespecial 1, 3) := by decide +kernel
theorem d4 : decode yB 4 = .ok (.iload_n 3, 1) := by decide +kernel
theorem d5 : decode yB 5 = .ok (.ifCond (.ne) 22, 3) := by decide +kernel
theorem d27 : decode yB 27 = .ok (.getstatic 38, 3) := by decide +kernel
theorem d30 : decode yB 30 = .ok (.ifCond (.eq) 28, 3) := by decide +kernel
theorem d33 : decode yB 33 = .ok (.aload_n 1, 1) := by decide +kernel
theorem d34 : decode yB 34 = .ok (.iload_n 2, 1) := by decide +kernel
theorem d35 : decode yB 35 = .ok (.iload_n 3, 1) := by decide +kernel
theorem d36 : decode yB 36 = .ok (.invokestatic 177, 3) := by decide +kernel
theorem d39 : decode yB 39 = .ok (.astore 5, 2) := by decide +kernel
theorem d41 : decode yB 41 = .ok (.aload_n 0, 1) := by decide +kernel
theorem d42 : decode yB 42 = .ok (.aload 5, 2) := by decide +kernel
theorem d44 : decode yB 44 = .ok (.iload_n 3, 1) := by decide +kernel
theorem d45 : decode yB 45 = .ok (.invokestatic 47, 3) := by decide +kernel
theorem d48 : decode yB 48 = .ok (.putfield 15, 3) := by decide +kernel
theorem d51 : decode yB 51 = .ok (.aload_n 0, 1) := by decide +kernel
theorem d52 : decode yB 52 = .ok (.aload 5, 2) := by decide +kernel
theorem d54 : decode yB 54 = .ok (.putfield 9, 3) := by decide +kernel
theorem d57 : decode yB 57 = .ok (.return_, 1) := by decide +kernel
def site : List Cond := [.fieldLink "java/lang/String" 38 "java/lang/String" "COMPACT_STRINGS" "Z", Cmp3.tab, CodL.tab, .laysFinal "java/lang/String" "java/lang/String" "value" "[B", .fieldLink "java/lang/String" 9 "java/lang/String" "value" "[B", .laysFinal "java/lang/String" "java/lang/String" "coder" "B", .fieldLink "java/lang/String" 15 "java/lang/String" "coder" "B"] ++ objW "java/lang/String" 1 ++ staticW "java/lang/String" 177 Cmp3.yN ++ staticW "java/lang/String" 47 CodL.yN
def tab : Cond := tabOf yN yB 6 none site
def P (a : Addr) (D : Cell) (fV fC : Field) (b : Addr) (A : Cell) (z : Int32) (o len : Nat) (args : Array Value) (s : State) : Prop := args = #[.ref a, .ref b, .int (Int32.ofNat o), .int (Int32.ofNat len), .null] ∧ Blank "java/lang/String" a D s ∧ Found "java/lang/String" "value" "[B" fV s ∧ Found "java/lang/String" "coder" "B" fC s ∧ Ch b A s ∧ StaticIs s "java/lang/String" "COMPACT_STRINGS" "Z" (.int z) ∧ ¬ z = 0 ∧ 0 < len ∧ o + len ≤ A.slots.size ∧ len ≤ 536870912 ∧ ∀ i, i < len → ¬ 255 < cv A (o + i)
def E (a : Addr) (D : Cell) (fV fC : Field) (A : Cell) (o len : Nat) (r : Option Value) (s u : State) : Prop := Got a D fV fC A o len r s u
theorem law (l : Launch) (a : Addr) (D : Cell) (fV fC : Field) (b : Addr) (A : Cell) (z : Int32) (o len : Nat) : Law l yN 5 4 2 35 yB 6 none site (P a D fV fC b A z o len) (E a D fV fC A o len) [⟨a, fC.slot⟩, ⟨a, fV.slot⟩] 1 len := by
  refine Law.of_walk (plainFor_of_name (by decide +kernel)) (by decide +kernel) (by decide +kernel) (by decide) (fun _ _ h => by rw [h.1]; rfl) (fun _ U U' hal hh h => ⟨h.1, h.2.1.mv hal hh, h.2.2.1.al hal, h.2.2.2.1.al hal, h.2.2.2.2.1.mv hal hh, h.2.2.2.2.2.1.there hal hh, h.2.2.2.2.2.2⟩) (fun r U U' V V' h1 hal h2 h => Got.mv r U U' V V' h1 hal h2 h) ?_
  intro p e s m args below meth c s₁ X0 hexec hbytes hml hret hlk hnm hown hh0 W hP
  obtain ⟨rfl, hB, f1, f2, hA, s1, hz, l0, l1, l2, hp⟩ := hP
  have a31 := hA.1.2.2.2
  have c1 : Steps p.tables e below (s₁.setTop (entryFrame m #[.ref a, .ref b, .int (Int32.ofNat o), .int (Int32.ofNat len), .null] 6)) (s₁.setTop (mkF m 0 #[.val (.ref a), .val (.ref b), .val (.int (Int32.ofNat o)), .val (.int (Int32.ofNat len)), .val .null, .unset] [])) := entry rfl
  have c2 : Steps p.tables e below (s₁.setTop (entryFrame m #[.ref a, .ref b, .int (Int32.ofNat o), .int (Int32.ofNat len), .null] 6)) (s₁.setTop (mkF m 1 #[.val (.ref a), .val (.ref b), .val (.int (Int32.ofNat o)), .val (.int (Int32.ofNat len)), .val .null, .unset] [.ref a])) := c1.trans (by
    refine XS.aloadN X0.here hexec rfl (hb hbytes d0) rfl rfl ?_
    exact Steps.refl _)
  obtain ⟨T3, X3, q3, st3⟩ := X0.oinit hexec hown (wks W (objW "java/lang/String" 1)) (g := (mkF m 1 #[.val (.ref a), .val (.ref b), .val (.int (Int32.ofNat o)), .val (.int (Int32.ofNat len)), .val .null, .unset] [.ref a])) rfl (by rw [hml]; rfl) (rest := []) rfl (hb hbytes d1) (W := 0) (by show 2 * 0 + 0 ≤ _; decide) (Nat.le_of_ble_eq_true rfl) (Nat.le_of_ble_eq_true rfl)
  have hh3 := q3.trans hh0
  have c4 : Steps p.tables e below (s₁.setTop (entryFrame m #[.ref a, .ref b, .int (Int32.ofNat o), .int (Int32.ofNat len), .null] 6)) (T3.setTop (mkF m 27 #[.val (.ref a), .val (.ref b), .val (.int (Int32.ofNat o)), .val (.int (Int32.ofNat len)), .val .null, .unset] [])) := (c2.trans (st3 _ (Steps.refl _))).trans (by
    refine XS.iloadN X3.here hexec rfl (hb hbytes d4) rfl ?_
    refine XS.ifYes X3.here hexec rfl (pc0 := 5) rfl (hb hbytes d5) rfl (i0_ne_t (nz32 (by omega) l0)) (by decide) rfl ?_
    exact Steps.refl _)
  obtain ⟨T5, X5, q5, st5⟩ := X3.sget hexec hown (wk W (.fieldLink "java/lang/String" 38 "java/lang/String" "COMPACT_STRINGS" "Z")) s1 (fun _ _ h => by rw [hh3]; exact h) (g := (mkF m 27 #[.val (.ref a), .val (.ref b), .val (.int (Int32.ofNat o)), .val (.int (Int32.ofNat len)), .val .null, .unset] [])) rfl (hb hbytes d27)
  have hh5 := q5.trans hh3
  have c6 : Steps p.tables e below (s₁.setTop (entryFrame m #[.ref a, .ref b, .int (Int32.ofNat o), .int (Int32.ofNat len), .null] 6)) (T5.setTop (mkF m 30 #[.val (.ref a), .val (.ref b), .val (.int (Int32.ofNat o)), .val (.int (Int32.ofNat len)), .val .null, .unset] [.int z])) := c4.trans (st5 _ (Steps.refl _))
  have c7 : Steps p.tables e below (s₁.setTop (entryFrame m #[.ref a, .ref b, .int (Int32.ofNat o), .int (Int32.ofNat len), .null] 6)) (T5.setTop (mkF m 36 #[.val (.ref a), .val (.ref b), .val (.int (Int32.ofNat o)), .val (.int (Int32.ofNat len)), .val .null, .unset] [.int (Int32.ofNat len), .int (Int32.ofNat o), .ref b])) := c6.trans (by
    refine XS.ifNo X5.here hexec rfl (hb hbytes d30) rfl (i0_eq_f hz) ?_
    refine XS.aloadN X5.here hexec rfl (hb hbytes d33) rfl rfl ?_
    refine XS.iloadN X5.here hexec rfl (hb hbytes d34) rfl ?_
    refine XS.iloadN X5.here hexec rfl (hb hbytes d35) rfl ?_
    exact Steps.refl _)
  obtain ⟨v8, T8, X8, E8, g8⟩ := X5.callS hexec (Cmp3.law l b A o len) hown (wks W (staticW "java/lang/String" 177 Cmp3.yN)) (wk W Cmp3.tab) (W := 0) (Nat.le_of_ble_eq_true rfl) (Nat.le_of_ble_eq_true rfl) (Nat.le_refl _) (by show 0 + len ≤ len; omega) (g := (mkF m 36 #[.val (.ref a), .val (.ref b), .val (.int (Int32.ofNat o)), .val (.int (Int32.ofNat len)), .val .null, .unset] [.int (Int32.ofNat len), .int (Int32.ofNat o), .ref b])) rfl (by rw [hml]; rfl) c7 (argsL := [.ref b, .int (Int32.ofNat o), .int (Int32.ofNat len)]) (rest := []) rfl rfl (by show 2 * 0 + 0 ≤ _; decide) (hb hbytes d36) (⟨rfl, hA.mv X5.warmed.alike hh5, l1, l2, hp⟩)
  obtain ⟨e8, z8⟩ := E8
  obtain ⟨rfl, N, n1, n2, n3, n4, n5, n6⟩ := NewArr.mv _ T5 s _ _ hh5.symm (Vm.Alike.refl _) rfl e8
  rw [hh5] at z8
  have hB1 := hB.keep X8.warmed.alike (n6 _ _ hB.1)
  have hne : s.heap.size ≠ a := (Nat.ne_of_lt (Array.getElem?_eq_some_iff.mp hB.1).1).symm
  have c9 : Steps p.tables e below (s₁.setTop (entryFrame m #[.ref a, .ref b, .int (Int32.ofNat o), .int (Int32.ofNat len), .null] 6)) (T8.setTop (mkF m 39 #[.val (.ref a), .val (.ref b), .val (.int (Int32.ofNat o)), .val (.int (Int32.ofNat len)), .val .null, .unset] [.ref s.heap.size])) := g8
  have c10 : Steps p.tables e below (s₁.setTop (entryFrame m #[.ref a, .ref b, .int (Int32.ofNat o), .int (Int32.ofNat len), .null] 6)) (T8.setTop (mkF m 45 #[.val (.ref a), .val (.ref b), .val (.int (Int32.ofNat o)), .val (.int (Int32.ofNat len)), .val .null, .val (.ref s.heap.size)] [.int (Int32.ofNat N.slots.size), .ref s.heap.size, .ref a])) := by
    have hc : Steps p.tables e below (s₁.setTop (entryFrame m #[.ref a, .ref b, .int (Int32.ofNat o), .int (Int32.ofNat len), .null] 6)) (T8.setTop (mkF m 45 #[.val (.ref a), .val (.ref b), .val (.int (Int32.ofNat o)), .val (.int (Int32.ofNat len)), .val .null, .val (.ref s.heap.size)] [.int (Int32.ofNat len), .ref s.heap.size, .ref a])) := c9.trans (by
      refine XS.astore X8.here hexec rfl (hb hbytes d39) rfl rfl rfl ?_
      refine XS.aloadN X8.here hexec rfl (hb hbytes d41) rfl rfl ?_
      refine XS.aload X8.here hexec rfl (hb hbytes d42) rfl rfl ?_
      refine XS.iloadN X8.here hexec rfl (hb hbytes d44) rfl ?_
      exact Steps.refl _)
    rw [n4]; exact hc
  obtain ⟨v11, T11, X11, E11, g11⟩ := X8.callS hexec (CodL.law l s.heap.size N) hown (wks W (staticW "java/lang/String" 47 CodL.yN)) (wk W CodL.tab) (W := 1) (Nat.le_of_ble_eq_true rfl) (Nat.le_of_ble_eq_true rfl) (Nat.le_refl _) (by show 0 + len + 0 ≤ len; omega) (g := (mkF m 45 #[.val (.ref a), .val (.ref b), .val (.int (Int32.ofNat o)), .val (.int (Int32.ofNat len)), .val .null, .val (.ref s.heap.size)] [.int (Int32.ofNat N.slots.size), .ref s.heap.size, .ref a])) rfl (by rw [hml]; rfl) c10 (argsL := [.ref s.heap.size, .int (Int32.ofNat N.slots.size)]) (rest := [.ref a]) rfl rfl (by show 2 * 0 + (1 + 0) ≤ _; decide) (hb hbytes d45) (⟨rfl, n1⟩)
  obtain ⟨rfl, q11⟩ := E11
  have hB11 := hB1.mv (X8.warmed.alike.symm.trans X11.warmed.alike) q11
  have c12 : Steps p.tables e below (s₁.setTop (entryFrame m #[.ref a, .ref b, .int (Int32.ofNat o), .int (Int32.ofNat len), .null] 6)) (T11.setTop (mkF m 48 #[.val (.ref a), .val (.ref b), .val (.int (Int32.ofNat o)), .val (.int (Int32.ofNat len)), .val .null, .val (.ref s.heap.size)] [.int 0, .ref a])) := g11
  obtain ⟨T13, X13, p13, bl13, sl13, st13⟩ := X11.finit hexec hown (wk W (.fieldLink "java/lang/String" 15 "java/lang/String" "coder" "B")) (Or.inr ⟨_, (wk W (.laysFinal "java/lang/String" "java/lang/String" "coder" "B"))⟩) (Or.inl ⟨rfl, hnm⟩) f2 (Or.inl rfl) hB11 (t := .byte) (by decide +kernel) rfl (g := (mkF m 48 #[.val (.ref a), .val (.ref b), .val (.int (Int32.ofNat o)), .val (.int (Int32.ofNat len)), .val .null, .val (.ref s.heap.size)] [.int 0, .ref a])) rfl (rest := []) rfl (hb hbytes d48)
  have c14 : Steps p.tables e below (s₁.setTop (entryFrame m #[.ref a, .ref b, .int (Int32.ofNat o), .int (Int32.ofNat len), .null] 6)) (T13.setTop (mkF m 54 #[.val (.ref a), .val (.ref b), .val (.int (Int32.ofNat o)), .val (.int (Int32.ofNat len)), .val .null, .val (.ref s.heap.size)] [.ref s.heap.size, .ref a])) := (c12.trans (st13 _ (Steps.refl _))).trans (by
    refine XS.aloadN X13.here hexec rfl (hb hbytes d51) rfl rfl ?_
    refine XS.aload X13.here hexec rfl (hb hbytes d52) rfl rfl ?_
    exact Steps.refl _)
  obtain ⟨T15, X15, p15, bl15, sl15, st15⟩ := X13.finit hexec hown (wk W (.fieldLink "java/lang/String" 9 "java/lang/String" "value" "[B")) (Or.inr ⟨_, (wk W (.laysFinal "java/lang/String" "java/lang/String" "value" "[B"))⟩) (Or.inl ⟨rfl, hnm⟩) f1 (Or.inl rfl) bl13 (t := (.array .byte)) (by decide +kernel) rfl (g := (mkF m 54 #[.val (.ref a), .val (.ref b), .val (.int (Int32.ofNat o)), .val (.int (Int32.ofNat len)), .val .null, .val (.ref s.heap.size)] [.ref s.heap.size, .ref a])) rfl (rest := []) rfl (hb hbytes d54)
  have c16 : Steps p.tables e below (s₁.setTop (entryFrame m #[.ref a, .ref b, .int (Int32.ofNat o), .int (Int32.ofNat len), .null] 6)) (T15.setTop (mkF m 57 #[.val (.ref a), .val (.ref b), .val (.int (Int32.ofNat o)), .val (.int (Int32.ofNat len)), .val .null, .val (.ref s.heap.size)] [])) := c14.trans (st15 _ (Steps.refl _))
  have ap := apart (Or.inr ⟨_, (wk W (.laysFinal "java/lang/String" "java/lang/String" "value" "[B"))⟩) (Or.inr ⟨_, (wk W (.laysFinal "java/lang/String" "java/lang/String" "coder" "B"))⟩) f1 f2 (t₁ := .array .byte) (t₂ := .byte) (by decide +kernel) (by decide +kernel) (by decide)
  have al := X8.warmed.alike.symm.trans X15.warmed.alike
  have n7 : T11.heap[s.heap.size]? = some N := by rw [q11]; exact n1.1
  exact ⟨T15, none, _, _, _, X15, by simp, rfl, by omega, (fun _ => rfl), ⟨rfl, _, N, bl15, ((Same.refl D _).set _ (by simp)).set _ (by simp), sl15, (Cell.slots_setSlot_ne _ ap).trans sl13, n1.keep al (p15.other hne (p13.other hne n7)), n2, by rw [al.findClass]; exact n3, n4, n5, fun y c h1 h2 => p15.other h1 (p13.other h1 (by rw [q11]; exact n6 y c h2)), by rw [p15.2.2, p13.2.2, q11]; exact z8⟩, fun fs hl => c16.trans (X15.returnOut hexec hret (hb hbytes d57) hl)⟩
end New4
namespace New1
def yN : MethodName := ⟨"java/lang/String", "<init>", "([C)V"⟩
abbrev yB : ByteArray := jdk_42_method_3_code
theorem d0 : decode yB 0 = .ok (.aload_n 0, 1) := by decide +kernel
theorem d1 : decode yB 1 = .ok (.aload_n 1, 1) := by decide +kernel
theorem d2 : decode yB 2 = .ok (.iconst 0, 1) := by decide +kernel
theorem d3 : decode yB 3 = .ok (.aload_n 1, 1) := by decide +kernel
theorem d4 : decode yB 4 = .ok (.arraylength, 1) := by decide +kernel
theorem d5 : decode yB 5 = .ok (.aconst_null, 1) := by decide +kernel
theorem d6 : decode yB 6 = .ok (.invokespecial 27, 3) := by decide +kernel
theorem d9 : decode yB 9 = .ok (.return_, 1) := by decide +kernel
def site : List Cond := [New4.tab] ++ initW "java/lang/String" 27 New4.yN
def tab : Cond := tabOf yN yB 2 none site
def P (a : Addr) (D : Cell) (fV fC : Field) (b : Addr) (A : Cell) (z : Int32) (args : Array Value) (s : State) : Prop := args = #[.ref a, .ref b] ∧ Blank "java/lang/String" a D s ∧ Found "java/lang/String" "value" "[B" fV s ∧ Found "java/lang/String" "coder" "B" fC s ∧ Ch b A s ∧ StaticIs s "java/lang/String" "COMPACT_STRINGS" "Z" (.int z) ∧ ¬ z = 0 ∧ 0 < A.slots.size ∧ A.slots.size ≤ 536870912 ∧ ∀ i, i < A.slots.size → ¬ 255 < cv A i
def E (a : Addr) (D : Cell) (fV fC : Field) (A : Cell) (r : Option Value) (s u : State) : Prop := Got a D fV fC A 0 A.slots.size r s u
theorem law (l : Launch) (a : Addr) (D : Cell) (fV fC : Field) (b : Addr) (A : Cell) (z : Int32) : Law l yN 2 1 3 52 yB 2 none site (P a D fV fC b A z) (E a D fV fC A) [⟨a, fC.slot⟩, ⟨a, fV.slot⟩] 1 A.slots.size := by
  refine Law.of_walk (plainFor_of_name (by decide +kernel)) (by decide +kernel) (by decide +kernel) (by decide) (fun _ _ h => by rw [h.1]; rfl) (fun _ U U' hal hh h => ⟨h.1, h.2.1.mv hal hh, h.2.2.1.al hal, h.2.2.2.1.al hal, h.2.2.2.2.1.mv hal hh, h.2.2.2.2.2.1.there hal hh, h.2.2.2.2.2.2⟩) (fun r U U' V V' h1 hal h2 h => Got.mv r U U' V V' h1 hal h2 h) ?_
  intro p e s m args below meth c s₁ X0 hexec hbytes hml hret hlk hnm hown hh0 W hP
  obtain ⟨rfl, hB, f1, f2, hA, s1, hz, l0, l2, hp⟩ := hP
  have c1 : Steps p.tables e below (s₁.setTop (entryFrame m #[.ref a, .ref b] 2)) (s₁.setTop (mkF m 0 #[.val (.ref a), .val (.ref b)] [])) := entry rfl
  have c2 : Steps p.tables e below (s₁.setTop (entryFrame m #[.ref a, .ref b] 2)) (s₁.setTop (mkF m 6 #[.val (.ref a), .val (.ref b)] [.null, .int (Int32.ofNat A.slots.size), .int 0, .ref b, .ref a])) := c1.trans (by
    refine XS.aloadN X0.here hexec rfl (hb hbytes d0) rfl rfl ?_
    refine XS.aloadN X0.here hexec rfl (hb hbytes d1) rfl rfl ?_
    refine iconstV X0.here hexec rfl 0 (hb hbytes d2) (by decide) ?_
    refine XS.aloadN X0.here hexec rfl (hb hbytes d3) rfl rfl ?_
    refine X0.alen hexec (hA.1.mv X0.warmed.alike hh0) rfl rfl (hb hbytes d4) ?_
    refine XS.aconstNull X0.here hexec rfl (hb hbytes d5) ?_
    exact Steps.refl _)
  obtain ⟨v3, T3, X3, E3, g3⟩ := X0.callN hexec (New4.law l a D fV fC b A z 0 A.slots.size) rfl hown (wks W (initW "java/lang/String" 27 New4.yN)) (W New4.tab (by simp only [site, List.mem_cons, List.mem_append, true_or, or_true])) (W := 0) (Nat.le_of_ble_eq_true rfl) (Nat.le_of_ble_eq_true rfl) (Nat.le_refl _) (by show 0 + A.slots.size ≤ A.slots.size; omega) (g := (mkF m 6 #[.val (.ref a), .val (.ref b)] [.null, .int (Int32.ofNat A.slots.size), .int (Int32.ofNat 0), .ref b, .ref a])) rfl (by rw [hml]; rfl) c2 (argsL := [.ref b, .int (Int32.ofNat 0), .int (Int32.ofNat A.slots.size), .null]) (rest := []) rfl rfl (by show 2 * 0 + 0 ≤ _; decide) (hb hbytes d6) (⟨rfl, hB.mv X0.warmed.alike hh0, f1.al X0.warmed.alike, f2.al X0.warmed.alike, hA.mv X0.warmed.alike hh0, s1.there X0.warmed.alike hh0, hz, l0, by omega, l2, fun i hi => by rw [Nat.zero_add]; exact hp i hi⟩)
  have e0 := Got.mv _ s₁ s _ _ hh0.symm (Vm.Alike.refl _) rfl E3
  obtain rfl := e0.1
  have c4 : Steps p.tables e below (s₁.setTop (entryFrame m #[.ref a, .ref b] 2)) (T3.setTop (mkF m 9 #[.val (.ref a), .val (.ref b)] [])) := g3
  exact ⟨T3, none, _, _, _, X3, by simp, rfl, by omega, (fun _ => rfl), e0, fun fs hl => c4.trans (X3.returnOut hexec hret (hb hbytes d9) hl)⟩
theorem pays {l : Launch} {R : Room} {p : Program} {e : Env} {below : List Frame} {s : State} {sargs : Array Value} {len W : Nat} (a : Addr) (D : Cell) (fV fC : Field) (b : Addr) (A : Cell) (z : Int32) (htab : tab.before sargs s = true) (hfr : 4 ≤ R.frames) (hlo : W + 65 ≤ R.locals) :
    Back l R p e below s sargs yN len W (fun A₁ a₁ => A₁.cells + 1 ≤ R.cells ∧ A₁.slots + A.slots.size ≤ R.slots ∧ P a D fV fC b A z a₁ A₁.U) (fun A₁ _ v₁ B₁ => E a D fV fC A v₁ A₁.U B₁.U ∧ B₁.locs = A₁.locs ++ [⟨a, fC.slot⟩, ⟨a, fV.slot⟩] ∧ B₁.cells = A₁.cells + 1 ∧ B₁.slots = A₁.slots + A.slots.size) :=
  (law l a D fV fC b A z).pays htab hfr (by omega)
end New1
end StrChars
namespace StrChars.Road
open Jvm Sem ClassFile Op Lib Jvm.Stand Jvm.Free Jvm.Free.XT
open Jvm.Lib.Cold (StaticIs)
abbrev ST : String := "java/lang/String"
abbrev words : List Jvm.Cond := [.code New1.yN New1.yB 2 none, .initialized ST, .methodLink ST 27 New4.yN, .instanceMethod New4.yN,
  .code New4.yN New4.yB 6 none, .fieldLink ST 38 ST "COMPACT_STRINGS" "Z", .laysFinal ST ST "value" "[B", .fieldLink ST 9 ST "value" "[B", .laysFinal ST ST "coder" "B", .fieldLink ST 15 ST "coder" "B",
  .methodLink ST 1 Lib.objectInit, .instanceMethod Lib.objectInit, .code Lib.objectInit ⟨#[0xb1]⟩ 1 none, .methodLink ST 177 Cmp3.yN, .static Cmp3.yN, .methodLink ST 47 CodL.yN, .static CodL.yN,
  .code Cmp3.yN Cmp3.yB 6 (some (.array .byte)), .initialized U16, .arrayClass .byte, .methodLink U16 115 Cmp5.yN, .static Cmp5.yN, .code Cmp5.yN Cmp5.yB 7 (some .int), .code CodL.yN CodL.yB 2 (some .byte)]
theorem tab_of {a : Array Value} {s : State} (h : ∀ w ∈ words, w.before a s = true) : New1.tab.before a s = true := by
  have h5 : Cmp5.tab.before a s = true := unparts (wk h (.code Cmp5.yN Cmp5.yB 7 (some .int))) (wks h (.initialized Cmp5.yN.cls :: Cmp5.site))
  have hc : CodL.tab.before a s = true := unparts (wk h (.code CodL.yN CodL.yB 2 (some .byte))) (wks h (.initialized CodL.yN.cls :: CodL.site))
  have q5 : ∀ w ∈ Cmp5.tab :: words, w.before a s = true := fun w hw => (List.mem_cons.mp hw).elim (fun e => e ▸ h5) (h w)
  have h3 : Cmp3.tab.before a s = true := unparts (wk q5 (.code Cmp3.yN Cmp3.yB 6 (some (.array .byte)))) (wks q5 (.initialized Cmp3.yN.cls :: Cmp3.site))
  have q3 : ∀ w ∈ Cmp3.tab :: CodL.tab :: words, w.before a s = true := fun w hw => (List.mem_cons.mp hw).elim (fun e => e ▸ h3) fun hw => (List.mem_cons.mp hw).elim (fun e => e ▸ hc) (h w)
  have h4 : New4.tab.before a s = true := unparts (wk q3 (.code New4.yN New4.yB 6 none)) (wks q3 (.initialized New4.yN.cls :: New4.site))
  have q4 : ∀ w ∈ New4.tab :: words, w.before a s = true := fun w hw => (List.mem_cons.mp hw).elim (fun e => e ▸ h4) (h w)
  exact unparts (wk q4 (.code New1.yN New1.yB 2 none)) (wks q4 (.initialized New1.yN.cls :: New1.site))
theorem moved {Z s : State} {a0 args : Array Value} (hZ : Z.Warmed39 s.vm) (hw : ∀ d ∈ words, d.before a0 Z = true) : ∀ d ∈ words, d.before args s = true := fun d hd => by
  have q := hw d hd
  have t : ∀ d ∈ words, d = .arrayClass .byte ∨ (d.onTables && d.keepsFace) = true := by decide +kernel
  rcases t d hd with rfl | t
  · exact RoadKit.mvA hZ q
  · exact RoadKit.mv hZ q t
def Q (Z : State) (x : Addr) (A : Cell) (h : Heap) (v : Option Value) (h' : Heap) (L : List Loc) : Prop := v = none ∧ (∀ y ∈ L, y.base = x) ∧ RoadKit.Keep h h' [x] ∧ h'.size = h.size + 1 ∧ RoadKit.Exa Z h' x ST ∧ RoadKit.Fld Z h' x ST "value" "[B" (.ref h.size) ∧ RoadKit.Fld Z h' x ST "coder" "B" (.int 0) ∧
  (∃ V : Cell, RoadKit.Arr Z h' h.size V .byte ∧ V.vm = .none ∧ Z.vm.findClass "[B" = some V.cls ∧ V.slots.size = A.slots.size ∧ ∀ j, j < A.slots.size → V.slots[j]? = some (.int (lo8 (cv A j)))) ∧
  ∀ (O n d : String) (w : Value), RoadKit.Fld Z h x O n d w → RoadKit.slotOf Z O n d ≠ RoadKit.slotOf Z ST "value" "[B" → RoadKit.slotOf Z O n d ≠ RoadKit.slotOf Z ST "coder" "B" → RoadKit.Fld Z h' x O n d w
theorem back {p : Program} {l : Launch} {e : Env} {R : Room} {s : State} {args : Array Value} {below : List Frame} {len W : Nat} {Z : State} {a0 : Array Value} {h : Heap} (hZ : Z.Warmed39 s.vm) (hw : ∀ d ∈ words, d.before a0 Z = true) {kI : Nat} (wi : (Jvm.Cond.instantiable ST kI).before a0 Z = true)
    {x b : Addr} {A : Cell} {z : Int32} {v0 c0 : Value} (E : RoadKit.Exa Z h x ST) (V : RoadKit.Fld Z h x ST "value" "[B" v0) (C : RoadKit.Fld Z h x ST "coder" "B" c0) (K : RoadKit.Arr Z h b A .char) (hty : Typed .char A) (S : RoadKit.Sta Z h ST "COMPACT_STRINGS" "Z" (.int z)) (hz : ¬ z = 0)
    (l0 : 0 < A.slots.size) (l2 : A.slots.size ≤ 536870912) (hp : ∀ i, i < A.slots.size → ¬ 255 < cv A i) (hfr : 4 ≤ R.frames) (hlo : W + 65 ≤ R.locals) :
    Back l R p e below s args New1.yN len W (fun P a => a = #[.ref x, .ref b] ∧ P.U.heap = h ∧ P.cells + 1 ≤ R.cells ∧ P.slots + A.slots.size ≤ R.slots)
      (fun P _ v B => ∃ L, Q Z x A h v B.U.heap L ∧ B.locs = P.locs ++ L ∧ B.cells = P.cells + 1 ∧ B.slots = P.slots + A.slots.size) := by
  intro m meth c P g ig mk a X hg hsize hdg hW hn hp'
  obtain ⟨rfl, rfl, r1, r2⟩ := hp'
  have al : Z.vm.Alike P.U.vm := hZ.alike.trans X.warmed.alike
  obtain ⟨D, cfV, kV, iV, fV, hD, gV, stV, knV, obV, asV, slV⟩ := id V
  obtain ⟨D', cfC, kC, iC, fC, hD', gC, stC, -, -, asC, slC⟩ := id C
  cases hD.symm.trans hD'
  obtain ⟨D2, kD, e1, e2, e3, e4, e5⟩ := id E
  cases hD.symm.trans e1
  obtain ⟨c2, k2, i1, i2, i3, -⟩ := Cond.instantiable_spec wi
  cases e2.symm.trans i1
  cases e3.symm.trans i2
  obtain ⟨kU, u1, u2⟩ := al.2.2 _ _ e3
  have hB : Blank ST x D P.U := ⟨hD, ⟨knV, fun q hq => by rw [hq] at obV; cases obV⟩, by rw [al.findClass]; exact e2, kU, u1, by rw [u2]; exact i3, by rw [u2]; exact e5 i3⟩
  have F1 : Found ST "value" "[B" fV P.U := ⟨SBG.found_only al ⟨cfV, kV, iV, gV⟩, stV⟩
  have F2 : Found ST "coder" "B" fC P.U := ⟨SBG.found_only al ⟨cfC, kC, iC, gC⟩, stC⟩
  have hA : Ch b A P.U := ⟨⟨K.1, State.isArrayOf_alike al K.2.1, K.2.2, by omega⟩, hty⟩
  have hS : StaticIs P.U ST "COMPACT_STRINGS" "Z" (.int z) := by
    obtain ⟨cfS, iS, kS, fS, st, cS, t1, t2, t3, t4, t5, t6, t7⟩ := S
    exact StaticIs.there (s := { Z with heap := P.U.heap }) ⟨cfS, iS, kS, fS, st, cS, t1, t2, t3, t4, t5, (fun q => by rw [q] at t6; cases t6), t7⟩ al rfl
  obtain ⟨v, B, X', ⟨⟨hv, E', V', q1, q2, q3, q4, q5, q6, q7, q8, q9, q10, q11⟩, hl, hc, hs⟩, st⟩ := New1.pays x D fV fC b A z (tab_of (moved hZ hw)) hfr hlo m meth c P g ig mk _ X hg hsize hdg hW hn ⟨r1, r2, rfl, hB, F1, F2, hA, hS, hz, l0, l2, hp⟩
  have al' : Z.vm.Alike B.U.vm := hZ.alike.trans X'.warmed.alike
  have hsz : E'.slots.size = D.slots.size := by
    obtain ⟨-, -, -, kB, w1, w2, w3⟩ := q1
    obtain ⟨kB', y1, y2⟩ := al'.2.2 _ _ e3
    rw [q2.2.1] at w1
    cases w1.symm.trans y1
    rw [w3, e5 i3, y2]
  refine ⟨v, B, X', ⟨_, ⟨hv, ?_, ⟨by omega, fun y cy hy hn' => q10 y cy (by simpa using hn') hy, fun y cy hy => ?_⟩, q11, ⟨E', _, q1.1, by rw [q2.2.1]; exact e2, by rw [q2.2.1]; exact e3, by rw [q2.1]; exact obV, fun _ => by rw [hsz]; exact e5 i3⟩,
    ⟨E', cfV, kV, iV, fV, q1.1, gV, stV, by rw [q2.1]; exact knV, by rw [q2.1]; exact obV, by rw [q2.2.1]; exact asV, q3⟩, ⟨E', cfC, kC, iC, fC, q1.1, gC, stC, by rw [q2.1]; exact knV, by rw [q2.1]; exact obV, by rw [q2.2.1]; exact asC, q4⟩,
    ⟨V', ⟨q5.1, State.isArrayOf_alike al'.symm q5.2.1, q5.2.2.1⟩, q6, by rw [← al'.findClass]; exact q7, q8, fun j hj => by have := q9 j hj; rwa [Nat.zero_add] at this⟩, fun O n d w F n1 n2 => ?_⟩, hl, hc, hs⟩, st⟩
  · intro y hy
    simp only [List.mem_cons, List.not_mem_nil, or_false] at hy
    rcases hy with rfl | rfl <;> rfl
  · by_cases q : y = x
    · subst q
      cases hD.symm.trans hy
      exact ⟨E', q1.1, q2.2.1, q2.1, hsz⟩
    · exact ⟨cy, q10 y cy q hy, rfl, rfl, rfl⟩
  · obtain ⟨D3, cf, k, i, f, g1, g2, g3, g4, g5, g6, g7⟩ := F
    cases hD.symm.trans g1
    simp only [RoadKit.slotOf, g2, gV, gC, Option.map_some, Option.getD_some] at n1 n2
    exact ⟨E', cf, k, i, f, q1.1, g2, g3, by rw [q2.1]; exact g4, by rw [q2.1]; exact g5, by rw [q2.2.1]; exact g6, by rw [q2.2.2 f.slot (by simp [n1, n2])]; exact g7⟩
end StrChars.Road
namespace StrChars.Road
open Jvm Sem ClassFile Op Lib Jvm.Stand Jvm.Free Jvm.Free.XT
def QA (Z : State) (x : Addr) (zn : Int32) (cs : List Int32) (h : Heap) (v : Option Value) (h' : Heap) (L : List Loc) : Prop := v = none ∧ (∀ y ∈ L, y.base = x) ∧ RoadKit.Keep h h' [x] ∧ h'.size = h.size + 1 ∧ RoadKit.Exa Z h' x ST ∧ RoadKit.Fld Z h' x ST "value" "[B" (.ref h.size) ∧ RoadKit.Fld Z h' x ST "coder" "B" (.int 0) ∧
  (∃ kb, Z.vm.findClass "[B" = some kb ∧ RoadKit.Arv Z h' h.size kb .byte zn (cs.map fun c => .int (lo8 c)) (.int 0)) ∧
  ∀ (O n d : String) (w : Value), RoadKit.Fld Z h x O n d w → RoadKit.slotOf Z O n d ≠ RoadKit.slotOf Z ST "value" "[B" → RoadKit.slotOf Z O n d ≠ RoadKit.slotOf Z ST "coder" "B" → RoadKit.Fld Z h' x O n d w
theorem backArv {p : Program} {l : Launch} {e : Env} {R : Room} {s : State} {args : Array Value} {below : List Frame} {len W : Nat} {Z : State} {a0 : Array Value} {h : Heap} (hZ : Z.Warmed39 s.vm) (hw : ∀ d ∈ words, d.before a0 Z = true) {kI : Nat} (wi : (Jvm.Cond.instantiable ST kI).before a0 Z = true)
    {x b : Addr} {k : ClassId} {zn z : Int32} {cs : List Int32} {dv v0 c0 : Value} (E : RoadKit.Exa Z h x ST) (V : RoadKit.Fld Z h x ST "value" "[B" v0) (C : RoadKit.Fld Z h x ST "coder" "B" c0) (K : RoadKit.Arv Z h b k .char zn (cs.map Value.int) dv) (S : RoadKit.Sta Z h ST "COMPACT_STRINGS" "Z" (.int z)) (hz : ¬ z = 0)
    (hlen : zn.toNatClampNeg = cs.length) (h0 : 0 < cs.length) (hbig : cs.length ≤ 536870912) (hall : ∀ c ∈ cs, ¬ 255 < c) (hfr : 4 ≤ R.frames) (hlo : W + 65 ≤ R.locals) :
    Back l R p e below s args New1.yN len W (fun P a => a = #[.ref x, .ref b] ∧ P.U.heap = h ∧ P.cells + 1 ≤ R.cells ∧ P.slots + cs.length ≤ R.slots)
      (fun P _ v B => ∃ L, QA Z x zn cs h v B.U.heap L ∧ B.locs = P.locs ++ L ∧ B.cells = P.cells + 1 ∧ B.slots = P.slots + cs.length) := by
  obtain ⟨A, K1, K2, K3, K4, K5, K6⟩ := K
  have e : A.slots.size = cs.length := K3.trans hlen
  have hat : ∀ (i : Nat) (hi : i < cs.length), A.slots[i]? = some (.int cs[i]) := fun i hi => by rw [K5 i (by omega)]; simp [List.getD_eq_getElem?_getD, hi]
  have hcv : ∀ (i : Nat) (hi : i < cs.length), cv A i = cs[i] := fun i hi => by unfold cv; rw [hat i hi]
  have hty : Typed .char A := fun i v hv => by
    have hi : i < A.slots.size := (Array.getElem?_eq_some_iff.mp hv).1
    have q := K5 i hi
    rw [hv] at q
    rw [Option.some.inj q]
    exact K6 i hi
  refine Back.mono (back hZ hw wi E V C K1 hty S hz (by omega) (by omega) (fun i hi => by rw [hcv i (by omega)]; exact hall _ (List.getElem_mem _)) hfr hlo) (fun P a hp => ⟨hp.1, hp.2.1, hp.2.2.1, by rw [e]; exact hp.2.2.2⟩) (fun P a v B hp hq => ?_)
  obtain ⟨L, ⟨q1, q2, q3, q4, q5, q6, q7, ⟨V', v1, v2, v3, v4, v5⟩, q9⟩, hl, hc, hs⟩ := hq
  refine ⟨L, ⟨q1, q2, q3, q4, q5, q6, q7, ⟨V'.cls, v3, V', v1, rfl, by rw [v4, e, hlen], K4, fun i hi => ?_, fun i hi => ?_⟩, q9⟩, hl, hc, by rw [hs, e]⟩
  · have hi' : i < cs.length := by omega
    rw [v5 i (by omega), hcv i hi']; simp [List.getD_eq_getElem?_getD, hi']
  · have hi' : i < cs.length := by omega
    simp only [List.getD_eq_getElem?_getD, List.getElem?_map, List.getElem?_eq_getElem hi', Option.map_some, Option.getD_some]
    exact fits_lo8 _
end StrChars.Road
namespace StrChars.Road
open Jvm Sem ClassFile Op Lib Jvm.Stand Jvm.Free Jvm.Free.XT
def QV (Z : State) (x : Addr) (N : Int32) (bs : List Int32) (h : Heap) (n0 : Nat) (v : Option Value) (h' : Heap) (L : List Loc) : Prop := v = none ∧ RoadKit.Fr n0 L ∧ RoadKit.Keep h h' [x] ∧ RoadKit.Exa Z h' x ST ∧ RoadKit.Fld Z h' x ST "coder" "B" (.int 0) ∧
  ∃ (t : Addr) (kb : ClassId), n0 ≤ t ∧ h.size ≤ t ∧ ¬ t = x ∧ RoadKit.Fld Z h' x ST "value" "[B" (.ref t) ∧ RoadKit.Arv Z h' t kb .byte N (bs.map Value.int) (.int 0)
theorem backV {p : Program} {l : Launch} {e : Env} {R : Room} {s : State} {args : Array Value} {below : List Frame} {len W : Nat} {Z : State} {a0 : Array Value} {h : Heap} (hZ : Z.Warmed39 s.vm) (hw : ∀ d ∈ words, d.before a0 Z = true) {kI : Nat} (wi : (Jvm.Cond.instantiable ST kI).before a0 Z = true)
    {x b : Addr} {kC : ClassId} {cs bs : List Int32} {d v0 c0 : Value} {z N : Int32} {n n0 : Nat} (hx0 : n0 ≤ x) (hh0 : n0 ≤ h.size) (E : RoadKit.Exa Z h x ST) (V : RoadKit.Fld Z h x ST "value" "[B" v0) (C : RoadKit.Fld Z h x ST "coder" "B" c0) (K : RoadKit.Arv Z h b kC .char N (cs.map Value.int) d) (S : RoadKit.Sta Z h ST "COMPACT_STRINGS" "Z" (.int z)) (hz : ¬ z = 0)
    (hn : cs.length = n) (hN : N = Int32.ofNat n) (l0 : 0 < n) (l2 : n ≤ 4000) (hp : ∀ c ∈ cs, ¬ c < 0 ∧ ¬ (255 : Int32) < c) (hb : bs = cs.map (fun c => c.toInt8.toInt32)) (hfr : 4 ≤ R.frames) (hlo : W + 65 ≤ R.locals) :
    Back l R p e below s args (⟨"java/lang/String", "<init>", "([C)V"⟩ : MethodName) len W (fun P a => a = #[.ref x, .ref b] ∧ P.U.heap = h ∧ P.cells + 1 ≤ R.cells ∧ P.slots + n ≤ R.slots)
      (fun P _ v B => ∃ L, QV Z x N bs h n0 v B.U.heap L ∧ B.locs = P.locs ++ L ∧ B.cells = P.cells + 1 ∧ B.slots = P.slots + n) := by
  subst hn hN hb
  refine Back.mono (backArv hZ hw wi E V C K S hz (n32 (by omega)) l0 (by omega) (fun c hc => (hp c hc).2) hfr hlo) (fun P a hp => hp) (fun P a v B hp hq => ?_)
  obtain ⟨L, ⟨q1, q2, q3, q4, q5, q6, q7, ⟨kb, v1, v2⟩, q9⟩, hl, hc, hs⟩ := hq
  exact ⟨L, ⟨q1, fun y hy => by rw [q2 y hy]; exact hx0, q3, q5, q7, h.size, kb, hh0, Nat.le_refl _, Nat.ne_of_gt E.lt, q6, by rw [List.map_map]; exact v2⟩, hl, hc, hs⟩
end StrChars.Road
end Jvm.Pilot.@@N@@
namespace Jvm.Pilot.@@N@@
open Jvm Jvm.ClassFile Sem Op Lib Jvm.Free Jvm.Stand Jvm.LawKit Jvm.RoadKit Bundle Jvm.Pilot.@@N@@.Jvm.D
theorem own_selP {s : State} {args args' : Array Value} {y x z : MethodName} {C : String} (h : (Jvm.Cond.selects C x z).before args' s = true) (hz : z.cls = y.cls) (hp : s.PrivateAt y) (hi : (Jvm.Cond.instanceMethod y).before args s = true) (hy : y.cls ≠ "java/lang/invoke/MethodHandle" ∧ y.cls ≠ "java/lang/invoke/VarHandle") : (Jvm.Cond.selects y.cls y y).before args s = true := by
  obtain ⟨c2, r2, m2, -, -, q3, -, kP, hkP, hkPi⟩ := Cond.selects_spec h
  exact Jvm.Stand.selects_self_of_private (hz ▸ findClass_of_methodNamed q3) hkP hkPi hp hi hy
theorem own_sameP {s : State} {args : Array Value} {y x z : MethodName} {C : String} (h : (Jvm.Cond.selects C x z).before args s = true) (hz : z.cls = y.cls) (hi : (Jvm.Cond.instanceMethod y).before args s = true) (hy : y.cls ≠ "java/lang/invoke/MethodHandle" ∧ y.cls ≠ "java/lang/invoke/VarHandle") : (Jvm.Cond.sameMethod y.cls y.cls y.name y.desc).before args s = true := by
  obtain ⟨c2, r2, m2, -, -, q3, -, kP, hkP, hkPi⟩ := Cond.selects_spec h
  obtain ⟨mk, methM, hnamed, hmethM, -, -⟩ := Cond.instanceMethod_spec hi
  have hf := State.methodFound?_of_named hnamed hy
  have hc := findClass_of_methodNamed hnamed
  have hc2 : s.vm.findClass y.cls = some m2.cls := hz ▸ findClass_of_methodNamed q3
  have e : mk.cls = m2.cls := Option.some.inj (hc.symm.trans hc2)
  simp [Cond.before, Cond.holds, Cond.value, hc, hf, hnamed, e, hkP, hkPi]
theorem own_nf {s : State} {args : Array Value} {y x z : MethodName} {C : String} (h : (Jvm.Cond.selects C x z).before args s = true) (hz : z.cls = y.cls) : NotFace s y := fun r0 h0 => by
  obtain ⟨c2, r2, m2, -, -, q3, -, kP, hkP, hkPi⟩ := Cond.selects_spec h
  have hc2 : s.vm.findClass y.cls = some m2.cls := hz ▸ findClass_of_methodNamed q3
  have e : r0.cls = m2.cls := Option.some.inj ((findClass_of_methodNamed h0).symm.trans hc2)
  exact ⟨kP, by rw [e]; exact hkP, hkPi⟩
set_option maxRecDepth 65536
set_option maxHeartbeats 40000000
abbrev HW (a0 : Array Value) (Z : State) : Prop := ∀ d ∈ tables_1, d.before a0 Z = true
abbrev SP (pg : Program) (ev : Env) (below : List Frame) (a b : State) : Prop := Steps pg.tables ev below a b
abbrev rr (a b c d : Nat) : Room := { frames := a, cells := b, slots := c, locals := d }
theorem gm {d : Cond} (i : Nat) (h : tables_1[i]? = some d) : d ∈ tables_1 := List.mem_of_getElem? h
abbrev MF (la : Launch) (Z : State) (hE : Heap) (y : MethodName) (c : ByteArray) (ml : Nat) (r : Option FieldType) (ws : List Cond) (rm : Room) (A : Array Value) (Q : Option Value → Heap → List Loc → Prop) : Prop := MetFree la y (head1 (Cond.code y c ml r :: ws) rm) (fun aa UU => aa = A ∧ Z.Warmed39 UU.vm ∧ UU.heap = hE) (fun _ _ _ _ _ => True) (fun _ UU oo UV => ∃ vv LL, oo = .returned vv ∧ Q vv UV.heap LL ∧ FrameEnd UU oo UV LL rm.cells rm.slots)
abbrev jc0 := jdk_42_method_152_code
abbrev jc1 := jdk_42_method_154_code
abbrev jc2 := jdk_42_method_155_code
abbrev jc3 := jdk_42_method_147_code
abbrev jc4 := jdk_65_method_121_code
abbrev jc5 := jdk_65_method_131_code
abbrev jc6 := jdk_65_method_133_code
abbrev jc7 := jdk_65_method_132_code
abbrev jc8 := jdk_42_method_150_code
abbrev jc9 := jdk_42_method_151_code
abbrev jc10 := jdk_42_method_139_code
abbrev jc11 := jdk_42_method_126_code
abbrev jc12 := jdk_42_method_54_code
abbrev jc13 := jdk_41_method_11_code
abbrev jc14 := jdk_42_method_56_code
abbrev jc15 := jdk_68_method_71_code
abbrev jc16 := jdk_68_method_73_code
abbrev jc17 := jdk_29_method_65_code
abbrev jc18 := jdk_48_method_27_code
abbrev jc19 := jdk_68_method_10_code
abbrev jc20 := jdk_29_method_69_code
abbrev jc21 := jdk_68_method_22_code
abbrev jc22 := jdk_68_method_64_code
abbrev jc23 := jdk_67_method_93_code
abbrev jc24 := jdk_68_method_68_code
abbrev jc25 := jdk_42_method_53_code
abbrev jc26 := jdk_67_method_42_code
abbrev jc27 := jdk_43_method_46_code
abbrev jc28 := jdk_31_method_11_code
abbrev jc29 := jdk_42_method_55_code
abbrev jc30 := jdk_43_method_24_code
abbrev jc31 := jdk_42_method_84_code
abbrev jc32 := jdk_42_method_97_code
abbrev jc33 := jdk_43_method_2_code
abbrev jc34 := jdk_68_method_2_code
abbrev jc35 := jdk_67_method_1_code
abbrev jc36 := jdk_68_method_9_code
abbrev jc37 := jdk_67_method_7_code
abbrev jc38 := jdk_68_method_6_code
abbrev jc39 := jdk_43_method_3_code
abbrev jc40 := jdk_30_method_1_code
abbrev jc41 := prog_9_method_9_code
abbrev jc42 := prog_9_method_1_code
abbrev jc43 := prog_9_method_8_code
abbrev jc44 := prog_9_method_5_code
abbrev jc45 := method_2_code
abbrev jc46 := method_3_code
abbrev c0_ : String := "com/example/beanloft/beanloft/naming/GlobalName"
abbrev c1_ : String := "java/lang/String"
abbrev c2_ : String := "java/lang/AbstractStringBuilder"
abbrev c3_ : String := "com/example/beanloft/beanloft/naming/GlobalNameInApplicationPinLaw"
abbrev c4_ : String := "java/lang/StringBuilder"
abbrev c5_ : String := "COMPACT_STRINGS"
abbrev c6_ : String := "Ljava/lang/String;"
abbrev c7_ : String := "java/lang/StringLatin1"
abbrev c8_ : String := "()Ljava/lang/String;"
abbrev c9_ : String := "(Ljava/lang/String;Ljava/lang/String;Ljava/lang/String;Ljava/lang/String;)V"
abbrev c10_ : String := "jdk/internal/util/Preconditions"
abbrev c11_ : String := "java/util/Arrays"
abbrev c12_ : String := "Ljava/util/function/BiFunction;"
abbrev c13_ : String := "(Ljava/lang/String;)Ljava/lang/StringBuilder;"
abbrev c14_ : String := "jdk/internal/util/ArraysSupport"
abbrev c15_ : String := "(Ljava/lang/Object;Ljava/lang/String;)Ljava/lang/Object;"
abbrev c16_ : String := "(Ljava/lang/Object;ILjava/lang/Object;II)V"
abbrev c17_ : String := "java/lang/Object"
abbrev c18_ : String := "(Ljava/lang/String;)Ljava/lang/AbstractStringBuilder;"
abbrev c19_ : String := "(Ljava/lang/CharSequence;)Z"
abbrev c20_ : String := "(Ljava/lang/AbstractStringBuilder;Ljava/lang/Void;)V"
abbrev c21_ : String := "SIOOBE_FORMATTER"
abbrev c22_ : String := "java/lang/CharSequence"
abbrev c23_ : String := "ensureCapacityInternal"
abbrev c24_ : String := "(Ljava/lang/String;)I"
abbrev c25_ : String := "java/lang/Math"
abbrev c26_ : String := "()Ljava/lang/Object;"
abbrev c27_ : String := "(IILjava/util/function/BiFunction;)I"
abbrev c28_ : String := "moduleName"
abbrev c29_ : String := "java/lang/Record"
abbrev mn0 : MethodName := ⟨"java/lang/String", "coder", "()B"⟩
abbrev mn1 : MethodName := ⟨"java/lang/String", "length", "()I"⟩
abbrev mn2 : MethodName := ⟨"java/lang/String", "isLatin1", "()Z"⟩
abbrev mn3 : MethodName := ⟨"jdk/internal/util/Preconditions", "checkIndex", "(IILjava/util/function/BiFunction;)I"⟩
abbrev mn4 : MethodName := ⟨"java/lang/String", "checkIndex", "(II)V"⟩
abbrev mn5 : MethodName := ⟨"java/lang/StringLatin1", "charAt", "([BI)C"⟩
abbrev mn6 : MethodName := ⟨"java/lang/String", "charAt", "(I)C"⟩
abbrev mn7 : MethodName := ⟨"java/lang/AbstractStringBuilder", "<init>", "(I)V"⟩
abbrev mn8 : MethodName := ⟨"java/lang/StringBuilder", "<init>", "()V"⟩
abbrev mn9 : MethodName := ⟨"java/lang/AbstractStringBuilder", "inflateIfNeededFor", "(Ljava/lang/String;)V"⟩
abbrev mn10 : MethodName := ⟨"java/lang/String", "getBytes", "([BIB)V"⟩
abbrev mn11 : MethodName := ⟨"java/lang/AbstractStringBuilder", "putStringAt", "(ILjava/lang/String;)V"⟩
abbrev mn12 : MethodName := ⟨"java/lang/AbstractStringBuilder", "ensureCapacityInternal", "(I)V"⟩
abbrev mn13 : MethodName := ⟨"java/lang/Math", "max", "(II)I"⟩
abbrev mn14 : MethodName := ⟨"jdk/internal/util/ArraysSupport", "newLength", "(III)I"⟩
abbrev mn15 : MethodName := ⟨"java/lang/AbstractStringBuilder", "newCapacity", "(I)I"⟩
abbrev mn16 : MethodName := ⟨"java/lang/Math", "min", "(II)I"⟩
abbrev mn17 : MethodName := ⟨"java/util/Arrays", "copyOf", "([BI)[B"⟩
abbrev mn18 : MethodName := ⟨"java/lang/AbstractStringBuilder", "append", "(Ljava/lang/String;)Ljava/lang/AbstractStringBuilder;"⟩
abbrev mn19 : MethodName := ⟨"java/lang/StringBuilder", "append", "(Ljava/lang/String;)Ljava/lang/StringBuilder;"⟩
abbrev mn20 : MethodName := ⟨"java/lang/AbstractStringBuilder", "getValue", "()[B"⟩
abbrev mn21 : MethodName := ⟨"java/lang/AbstractStringBuilder", "length", "()I"⟩
abbrev mn22 : MethodName := ⟨"java/lang/StringBuilder", "length", "()I"⟩
abbrev mn23 : MethodName := ⟨"java/lang/AbstractStringBuilder", "isLatin1", "()Z"⟩
abbrev mn24 : MethodName := ⟨"java/util/Arrays", "checkLength", "(II)V"⟩
abbrev mn25 : MethodName := ⟨"java/util/Arrays", "copyOfRangeByte", "([BII)[B"⟩
abbrev mn26 : MethodName := ⟨"java/util/Arrays", "copyOfRange", "([BII)[B"⟩
abbrev mn27 : MethodName := ⟨"java/lang/String", "<init>", "(Ljava/lang/AbstractStringBuilder;Ljava/lang/Void;)V"⟩
abbrev mn28 : MethodName := ⟨"java/lang/String", "<init>", "(Ljava/lang/StringBuilder;)V"⟩
abbrev mn29 : MethodName := ⟨"java/lang/StringBuilder", "toString", "()Ljava/lang/String;"⟩
abbrev mn30 : MethodName := ⟨"com/example/beanloft/beanloft/naming/GlobalNameInApplicationPinLaw", "seg", "(I)C"⟩
abbrev mn31 : MethodName := ⟨"java/lang/String", "<init>", "([BB)V"⟩
abbrev mn32 : MethodName := ⟨"java/lang/StringLatin1", "canEncode", "(C)Z"⟩
abbrev mn33 : MethodName := ⟨"java/lang/StringLatin1", "toBytes", "(C)[B"⟩
abbrev mn34 : MethodName := ⟨"java/lang/String", "valueOf", "(C)Ljava/lang/String;"⟩
abbrev mn35 : MethodName := ⟨"java/lang/Record", "<init>", "()V"⟩
abbrev mn36 : MethodName := ⟨"java/util/Objects", "requireNonNull", "(Ljava/lang/Object;Ljava/lang/String;)Ljava/lang/Object;"⟩
abbrev mn37 : MethodName := ⟨"java/lang/String", "toString", "()Ljava/lang/String;"⟩
abbrev mn38 : MethodName := ⟨"java/lang/String", "isEmpty", "()Z"⟩
abbrev mn39 : MethodName := ⟨"java/lang/StringLatin1", "indexOf", "([BI[BII)I"⟩
abbrev mn40 : MethodName := ⟨"java/lang/StringLatin1", "indexOf", "([B[B)I"⟩
abbrev mn41 : MethodName := ⟨"java/lang/String", "indexOf", "(Ljava/lang/String;)I"⟩
abbrev mn42 : MethodName := ⟨"java/lang/CharSequence", "toString", "()Ljava/lang/String;"⟩
abbrev mn43 : MethodName := ⟨"java/lang/String", "contains", "(Ljava/lang/CharSequence;)Z"⟩
abbrev mn44 : MethodName := ⟨"com/example/beanloft/beanloft/naming/GlobalName", "checkSegment", "(Ljava/lang/String;Ljava/lang/String;Ljava/lang/String;Ljava/lang/String;)V"⟩
abbrev mn45 : MethodName := ⟨"com/example/beanloft/beanloft/naming/GlobalName", "<init>", "(Ljava/lang/String;Ljava/lang/String;Ljava/lang/String;Ljava/lang/String;)V"⟩
abbrev mn46 : MethodName := ⟨"com/example/beanloft/beanloft/naming/GlobalName", "viewSuffix", "()Ljava/lang/String;"⟩
abbrev mn47 : MethodName := ⟨"com/example/beanloft/beanloft/naming/GlobalName", "inApplication", "()Ljava/lang/String;"⟩
abbrev mn48 : MethodName := ⟨"java/lang/String", "<init>", "([C)V"⟩
abbrev mn49 : MethodName := ⟨"com/example/beanloft/beanloft/naming/GlobalNameInApplicationPinLaw", "prefixOk", "(Ljava/lang/String;)Z"⟩
section
variable {a0 : Array Value} {Z : State}
theorem wd0 (hw : HW a0 Z) : (Cond.methodLink c3_ 13 ({ cls := c3_, name := "seg", desc := "(I)C" } : Jvm.MethodName)).before a0 Z = true := hw _ (gm 0 rfl)
theorem wd1 (hw : HW a0 Z) : (Cond.static ({ cls := c3_, name := "seg", desc := "(I)C" } : Jvm.MethodName)).before a0 Z = true := hw _ (gm 1 rfl)
theorem wd2 (hw : HW a0 Z) : (Cond.initialized c3_).before a0 Z = true := hw _ (gm 2 rfl)
theorem wd3 (hw : HW a0 Z) : (Cond.code ({ cls := c3_, name := "seg", desc := "(I)C" } : Jvm.MethodName) method_2_code 2 (Option.some FieldType.char)).before a0 Z = true := hw _ (gm 3 rfl)
theorem wd4 (hw : HW a0 Z) : (Cond.methodLink c3_ 21 ({ cls := c1_, name := "valueOf", desc := "(C)Ljava/lang/String;" } : Jvm.MethodName)).before a0 Z = true := hw _ (gm 4 rfl)
theorem wd5 (hw : HW a0 Z) : (Cond.static ({ cls := c1_, name := "valueOf", desc := "(C)Ljava/lang/String;" } : Jvm.MethodName)).before a0 Z = true := hw _ (gm 5 rfl)
theorem wd6 (hw : HW a0 Z) : (Cond.initialized c1_).before a0 Z = true := hw _ (gm 6 rfl)
theorem wd7 (hw : HW a0 Z) : (Cond.code ({ cls := c1_, name := "valueOf", desc := "(C)Ljava/lang/String;" } : Jvm.MethodName) jdk_42_method_139_code 1 (Option.some (FieldType.object c1_))).before a0 Z = true := hw _ (gm 7 rfl)
theorem wd8 (hw : HW a0 Z) : (Cond.fieldLink c1_ 38 c1_ c5_ "Z").before a0 Z = true := hw _ (gm 8 rfl)
theorem wd9 (hw : HW a0 Z) : (Cond.methodLink c1_ 1015 ({ cls := c7_, name := "canEncode", desc := "(C)Z" } : Jvm.MethodName)).before a0 Z = true := hw _ (gm 9 rfl)
theorem wd10 (hw : HW a0 Z) : (Cond.static ({ cls := c7_, name := "canEncode", desc := "(C)Z" } : Jvm.MethodName)).before a0 Z = true := hw _ (gm 10 rfl)
theorem wd11 (hw : HW a0 Z) : (Cond.initialized c7_).before a0 Z = true := hw _ (gm 11 rfl)
theorem wd12 (hw : HW a0 Z) : (Cond.code ({ cls := c7_, name := "canEncode", desc := "(C)Z" } : Jvm.MethodName) jdk_43_method_3_code 1 (Option.some FieldType.boolean)).before a0 Z = true := hw _ (gm 12 rfl)
theorem wd13 (hw : HW a0 Z) : (Cond.classLink c1_ 10 c1_).before a0 Z = true := hw _ (gm 13 rfl)
theorem wd14 (hw : HW a0 Z) : (Cond.instantiable c1_ 4).before a0 Z = true := hw _ (gm 14 rfl)
theorem wd15 (hw : HW a0 Z) : (Cond.methodLink c1_ 1018 ({ cls := c7_, name := "toBytes", desc := "(C)[B" } : Jvm.MethodName)).before a0 Z = true := hw _ (gm 15 rfl)
theorem wd16 (hw : HW a0 Z) : (Cond.static ({ cls := c7_, name := "toBytes", desc := "(C)[B" } : Jvm.MethodName)).before a0 Z = true := hw _ (gm 16 rfl)
theorem wd17 (hw : HW a0 Z) : (Cond.code ({ cls := c7_, name := "toBytes", desc := "(C)[B" } : Jvm.MethodName) jdk_43_method_46_code 1 (Option.some (FieldType.array FieldType.byte))).before a0 Z = true := hw _ (gm 17 rfl)
theorem wd18 (hw : HW a0 Z) : (Cond.arrayClass FieldType.byte).before a0 Z = true := hw _ (gm 18 rfl)
theorem wd19 (hw : HW a0 Z) : (Cond.methodLink c1_ 209 ({ cls := c1_, name := "<init>", desc := "([BB)V" } : Jvm.MethodName)).before a0 Z = true := hw _ (gm 19 rfl)
theorem wd20 (hw : HW a0 Z) : (Cond.instanceMethod ({ cls := c1_, name := "<init>", desc := "([BB)V" } : Jvm.MethodName)).before a0 Z = true := hw _ (gm 20 rfl)
theorem wd22 (hw : HW a0 Z) : (Cond.code ({ cls := c1_, name := "<init>", desc := "([BB)V" } : Jvm.MethodName) jdk_42_method_151_code 3 (Option.none : Option Jvm.ClassFile.FieldType)).before a0 Z = true := hw _ (gm 22 rfl)
theorem wd23 (hw : HW a0 Z) : (Cond.methodLink c1_ 1 ({ cls := c17_, name := "<init>", desc := "()V" } : Jvm.MethodName)).before a0 Z = true := hw _ (gm 23 rfl)
theorem wd24 (hw : HW a0 Z) : (Cond.instanceMethod ({ cls := c17_, name := "<init>", desc := "()V" } : Jvm.MethodName)).before a0 Z = true := hw _ (gm 24 rfl)
theorem wd25 (hw : HW a0 Z) : (Cond.code ({ cls := c17_, name := "<init>", desc := "()V" } : Jvm.MethodName) object_method_1_code 1 (Option.none : Option Jvm.ClassFile.FieldType)).before a0 Z = true := hw _ (gm 25 rfl)
theorem wd26 (hw : HW a0 Z) : (Cond.fieldLink c1_ 9 c1_ "value" "[B").before a0 Z = true := hw _ (gm 26 rfl)
theorem wd27 (hw : HW a0 Z) : (Cond.laysFinal c1_ c1_ "value" "[B").before a0 Z = true := hw _ (gm 27 rfl)
theorem wd28 (hw : HW a0 Z) : (Cond.fieldLink c1_ 15 c1_ "coder" "B").before a0 Z = true := hw _ (gm 28 rfl)
theorem wd29 (hw : HW a0 Z) : (Cond.laysFinal c1_ c1_ "coder" "B").before a0 Z = true := hw _ (gm 29 rfl)
theorem wd30 (hw : HW a0 Z) : (Cond.classLink c3_ 25 c0_).before a0 Z = true := hw _ (gm 30 rfl)
theorem wd31 (hw : HW a0 Z) : (Cond.instantiable c0_ 4).before a0 Z = true := hw _ (gm 31 rfl)
theorem wd32 (hw : HW a0 Z) : (Cond.initialized c0_).before a0 Z = true := hw _ (gm 32 rfl)
theorem wd33 (hw : HW a0 Z) : (Cond.methodLink c3_ 27 ({ cls := c0_, name := "<init>", desc := c9_ } : Jvm.MethodName)).before a0 Z = true := hw _ (gm 33 rfl)
theorem wd34 (hw : HW a0 Z) : (Cond.instanceMethod ({ cls := c0_, name := "<init>", desc := c9_ } : Jvm.MethodName)).before a0 Z = true := hw _ (gm 34 rfl)
theorem wd35 (hw : HW a0 Z) : (Cond.code ({ cls := c0_, name := "<init>", desc := c9_ } : Jvm.MethodName) prog_9_method_1_code 5 (Option.none : Option Jvm.ClassFile.FieldType)).before a0 Z = true := hw _ (gm 35 rfl)
theorem wd36 (hw : HW a0 Z) : (Cond.methodLink c0_ 1 ({ cls := c29_, name := "<init>", desc := "()V" } : Jvm.MethodName)).before a0 Z = true := hw _ (gm 36 rfl)
theorem wd37 (hw : HW a0 Z) : (Cond.instanceMethod ({ cls := c29_, name := "<init>", desc := "()V" } : Jvm.MethodName)).before a0 Z = true := hw _ (gm 37 rfl)
theorem wd39 (hw : HW a0 Z) : (Cond.initialized c29_).before a0 Z = true := hw _ (gm 39 rfl)
theorem wd40 (hw : HW a0 Z) : (Cond.code ({ cls := c29_, name := "<init>", desc := "()V" } : Jvm.MethodName) jdk_30_method_1_code 1 (Option.none : Option Jvm.ClassFile.FieldType)).before a0 Z = true := hw _ (gm 40 rfl)
theorem wd41 (hw : HW a0 Z) : (Cond.methodLink c29_ 1 ({ cls := c17_, name := "<init>", desc := "()V" } : Jvm.MethodName)).before a0 Z = true := hw _ (gm 41 rfl)
theorem wd42 (hw : HW a0 Z) : (Cond.stringLink c0_ 7 c28_).before a0 Z = true := hw _ (gm 42 rfl)
theorem wd45 (hw : HW a0 Z) : (Cond.methodLink c0_ 9 ({ cls := "java/util/Objects", name := "requireNonNull", desc := c15_ } : Jvm.MethodName)).before a0 Z = true := hw _ (gm 45 rfl)
theorem wd46 (hw : HW a0 Z) : (Cond.static ({ cls := "java/util/Objects", name := "requireNonNull", desc := c15_ } : Jvm.MethodName)).before a0 Z = true := hw _ (gm 46 rfl)
theorem wd47 (hw : HW a0 Z) : (Cond.initialized "java/util/Objects").before a0 Z = true := hw _ (gm 47 rfl)
theorem wd48 (hw : HW a0 Z) : (Cond.code ({ cls := "java/util/Objects", name := "requireNonNull", desc := c15_ } : Jvm.MethodName) jdk_31_method_11_code 2 (Option.some (FieldType.object c17_))).before a0 Z = true := hw _ (gm 48 rfl)
theorem wd49 (hw : HW a0 Z) : (Cond.stringLink c0_ 15 "beanName").before a0 Z = true := hw _ (gm 49 rfl)
theorem wd50 (hw : HW a0 Z) : (Cond.stringLink c0_ 17 "application name").before a0 Z = true := hw _ (gm 50 rfl)
theorem wd51 (hw : HW a0 Z) : (Cond.methodLink c0_ 19 ({ cls := c0_, name := "checkSegment", desc := c9_ } : Jvm.MethodName)).before a0 Z = true := hw _ (gm 51 rfl)
theorem wd52 (hw : HW a0 Z) : (Cond.static ({ cls := c0_, name := "checkSegment", desc := c9_ } : Jvm.MethodName)).before a0 Z = true := hw _ (gm 52 rfl)
theorem wd53 (hw : HW a0 Z) : (Cond.code ({ cls := c0_, name := "checkSegment", desc := c9_ } : Jvm.MethodName) prog_9_method_9_code 4 (Option.none : Option Jvm.ClassFile.FieldType)).before a0 Z = true := hw _ (gm 53 rfl)
theorem wd54 (hw : HW a0 Z) : (Cond.stringLink c0_ 25 "module name").before a0 Z = true := hw _ (gm 54 rfl)
theorem wd55 (hw : HW a0 Z) : (Cond.methodLink c0_ 122 ({ cls := c1_, name := "isEmpty", desc := "()Z" } : Jvm.MethodName)).before a0 Z = true := hw _ (gm 55 rfl)
theorem wd56 (hw : HW a0 Z) : (Cond.declares ({ cls := c1_, name := "isEmpty", desc := "()Z" } : Jvm.MethodName)).before a0 Z = true := hw _ (gm 56 rfl)
theorem wd57 (hw : HW a0 Z) : (Cond.instanceMethod ({ cls := c1_, name := "isEmpty", desc := "()Z" } : Jvm.MethodName)).before a0 Z = true := hw _ (gm 57 rfl)
theorem wd58 (hw : HW a0 Z) : (Cond.selects c1_ ({ cls := c1_, name := "isEmpty", desc := "()Z" } : Jvm.MethodName) ({ cls := c1_, name := "isEmpty", desc := "()Z" } : Jvm.MethodName)).before a0 Z = true := hw _ (gm 58 rfl)
theorem wd59 (hw : HW a0 Z) : (Cond.code ({ cls := c1_, name := "isEmpty", desc := "()Z" } : Jvm.MethodName) jdk_42_method_55_code 1 (Option.some FieldType.boolean)).before a0 Z = true := hw _ (gm 59 rfl)
theorem wd60 (hw : HW a0 Z) : (Cond.stringLink c0_ 105 "/").before a0 Z = true := hw _ (gm 60 rfl)
theorem wd61 (hw : HW a0 Z) : (Cond.methodLink c0_ 126 ({ cls := c1_, name := "contains", desc := c19_ } : Jvm.MethodName)).before a0 Z = true := hw _ (gm 61 rfl)
theorem wd62 (hw : HW a0 Z) : (Cond.declares ({ cls := c1_, name := "contains", desc := c19_ } : Jvm.MethodName)).before a0 Z = true := hw _ (gm 62 rfl)
theorem wd63 (hw : HW a0 Z) : (Cond.instanceMethod ({ cls := c1_, name := "contains", desc := c19_ } : Jvm.MethodName)).before a0 Z = true := hw _ (gm 63 rfl)
theorem wd64 (hw : HW a0 Z) : (Cond.selects c1_ ({ cls := c1_, name := "contains", desc := c19_ } : Jvm.MethodName) ({ cls := c1_, name := "contains", desc := c19_ } : Jvm.MethodName)).before a0 Z = true := hw _ (gm 64 rfl)
theorem wd65 (hw : HW a0 Z) : (Cond.code ({ cls := c1_, name := "contains", desc := c19_ } : Jvm.MethodName) jdk_42_method_97_code 2 (Option.some FieldType.boolean)).before a0 Z = true := hw _ (gm 65 rfl)
theorem wd66 (hw : HW a0 Z) : (Cond.methodLink c1_ 710 ({ cls := c22_, name := "toString", desc := c8_ } : Jvm.MethodName)).before a0 Z = true := hw _ (gm 66 rfl)
theorem wd67 (hw : HW a0 Z) : (Cond.declares ({ cls := c22_, name := "toString", desc := c8_ } : Jvm.MethodName)).before a0 Z = true := hw _ (gm 67 rfl)
theorem wd68 (hw : HW a0 Z) : (Cond.interfaceMethod c22_ c22_ "toString" c8_).before a0 Z = true := hw _ (gm 68 rfl)
theorem wd69 (hw : HW a0 Z) : (Cond.selects c1_ ({ cls := c22_, name := "toString", desc := c8_ } : Jvm.MethodName) ({ cls := c1_, name := "toString", desc := c8_ } : Jvm.MethodName)).before a0 Z = true := hw _ (gm 69 rfl)
theorem wd70 (hw : HW a0 Z) : (Cond.instanceMethod ({ cls := c1_, name := "toString", desc := c8_ } : Jvm.MethodName)).before a0 Z = true := hw _ (gm 70 rfl)
theorem wd71 (hw : HW a0 Z) : (Cond.publicMethod ({ cls := c1_, name := "toString", desc := c8_ } : Jvm.MethodName)).before a0 Z = true := hw _ (gm 71 rfl)
theorem wd72 (hw : HW a0 Z) : (Cond.unhidden c1_ "toString" c8_).before a0 Z = true := hw _ (gm 72 rfl)
theorem wd73 (hw : HW a0 Z) : (Cond.castable c1_ c22_).before a0 Z = true := hw _ (gm 73 rfl)
theorem wd74 (hw : HW a0 Z) : (Cond.code ({ cls := c1_, name := "toString", desc := c8_ } : Jvm.MethodName) jdk_42_method_126_code 1 (Option.some (FieldType.object c1_))).before a0 Z = true := hw _ (gm 74 rfl)
theorem wd75 (hw : HW a0 Z) : (Cond.methodLink c1_ 711 ({ cls := c1_, name := "indexOf", desc := c24_ } : Jvm.MethodName)).before a0 Z = true := hw _ (gm 75 rfl)
theorem wd76 (hw : HW a0 Z) : (Cond.declares ({ cls := c1_, name := "indexOf", desc := c24_ } : Jvm.MethodName)).before a0 Z = true := hw _ (gm 76 rfl)
theorem wd77 (hw : HW a0 Z) : (Cond.instanceMethod ({ cls := c1_, name := "indexOf", desc := c24_ } : Jvm.MethodName)).before a0 Z = true := hw _ (gm 77 rfl)
theorem wd78 (hw : HW a0 Z) : (Cond.selects c1_ ({ cls := c1_, name := "indexOf", desc := c24_ } : Jvm.MethodName) ({ cls := c1_, name := "indexOf", desc := c24_ } : Jvm.MethodName)).before a0 Z = true := hw _ (gm 78 rfl)
theorem wd79 (hw : HW a0 Z) : (Cond.code ({ cls := c1_, name := "indexOf", desc := c24_ } : Jvm.MethodName) jdk_42_method_84_code 3 (Option.some FieldType.int)).before a0 Z = true := hw _ (gm 79 rfl)
theorem wd80 (hw : HW a0 Z) : (Cond.methodLink c1_ 335 ({ cls := c1_, name := "coder", desc := "()B" } : Jvm.MethodName)).before a0 Z = true := hw _ (gm 80 rfl)
theorem wd81 (hw : HW a0 Z) : (Cond.declares ({ cls := c1_, name := "coder", desc := "()B" } : Jvm.MethodName)).before a0 Z = true := hw _ (gm 81 rfl)
theorem wd82 (hw : HW a0 Z) : (Cond.instanceMethod ({ cls := c1_, name := "coder", desc := "()B" } : Jvm.MethodName)).before a0 Z = true := hw _ (gm 82 rfl)
theorem wd83 (hw : HW a0 Z) : (Cond.selects c1_ ({ cls := c1_, name := "coder", desc := "()B" } : Jvm.MethodName) ({ cls := c1_, name := "coder", desc := "()B" } : Jvm.MethodName)).before a0 Z = true := hw _ (gm 83 rfl)
theorem wd84 (hw : HW a0 Z) : (Cond.code ({ cls := c1_, name := "coder", desc := "()B" } : Jvm.MethodName) jdk_42_method_152_code 1 (Option.some FieldType.byte)).before a0 Z = true := hw _ (gm 84 rfl)
theorem wd85 (hw : HW a0 Z) : (Cond.methodLink c1_ 492 ({ cls := c1_, name := "isLatin1", desc := "()Z" } : Jvm.MethodName)).before a0 Z = true := hw _ (gm 85 rfl)
theorem wd86 (hw : HW a0 Z) : (Cond.declares ({ cls := c1_, name := "isLatin1", desc := "()Z" } : Jvm.MethodName)).before a0 Z = true := hw _ (gm 86 rfl)
theorem wd87 (hw : HW a0 Z) : (Cond.instanceMethod ({ cls := c1_, name := "isLatin1", desc := "()Z" } : Jvm.MethodName)).before a0 Z = true := hw _ (gm 87 rfl)
theorem wd88 (hw : HW a0 Z) : (Cond.selects c1_ ({ cls := c1_, name := "isLatin1", desc := "()Z" } : Jvm.MethodName) ({ cls := c1_, name := "isLatin1", desc := "()Z" } : Jvm.MethodName)).before a0 Z = true := hw _ (gm 88 rfl)
theorem wd89 (hw : HW a0 Z) : (Cond.code ({ cls := c1_, name := "isLatin1", desc := "()Z" } : Jvm.MethodName) jdk_42_method_154_code 1 (Option.some FieldType.boolean)).before a0 Z = true := hw _ (gm 89 rfl)
theorem wd90 (hw : HW a0 Z) : (Cond.methodLink c1_ 647 ({ cls := c7_, name := "indexOf", desc := "([B[B)I" } : Jvm.MethodName)).before a0 Z = true := hw _ (gm 90 rfl)
theorem wd91 (hw : HW a0 Z) : (Cond.static ({ cls := c7_, name := "indexOf", desc := "([B[B)I" } : Jvm.MethodName)).before a0 Z = true := hw _ (gm 91 rfl)
theorem wd92 (hw : HW a0 Z) : (Cond.code ({ cls := c7_, name := "indexOf", desc := "([B[B)I" } : Jvm.MethodName) jdk_43_method_24_code 2 (Option.some FieldType.int)).before a0 Z = true := hw _ (gm 92 rfl)
theorem wd93 (hw : HW a0 Z) : (Cond.methodLink c7_ 99 ({ cls := c7_, name := "indexOf", desc := "([BI[BII)I" } : Jvm.MethodName)).before a0 Z = true := hw _ (gm 93 rfl)
theorem wd94 (hw : HW a0 Z) : (Cond.static ({ cls := c7_, name := "indexOf", desc := "([BI[BII)I" } : Jvm.MethodName)).before a0 Z = true := hw _ (gm 94 rfl)
theorem wd95 (hw : HW a0 Z) : (Cond.code ({ cls := c7_, name := "indexOf", desc := "([BI[BII)I" } : Jvm.MethodName) jdk_43_method_25_code 11 (Option.some FieldType.int)).before a0 Z = true := hw _ (gm 95 rfl)
theorem wd96 (hw : HW a0 Z) : (Cond.stringLink c0_ 120 "!").before a0 Z = true := hw _ (gm 96 rfl)
theorem wd97 (hw : HW a0 Z) : (Cond.stringLink c0_ 27 "bean name").before a0 Z = true := hw _ (gm 97 rfl)
theorem wd98 (hw : HW a0 Z) : (Cond.stringLink c0_ 29 "view name").before a0 Z = true := hw _ (gm 98 rfl)
theorem wd99 (hw : HW a0 Z) : (Cond.fieldLink c0_ 31 c0_ "appName" c6_).before a0 Z = true := hw _ (gm 99 rfl)
theorem wd100 (hw : HW a0 Z) : (Cond.laysFinal c0_ c0_ "appName" c6_).before a0 Z = true := hw _ (gm 100 rfl)
theorem wd101 (hw : HW a0 Z) : (Cond.fieldLink c0_ 35 c0_ c28_ c6_).before a0 Z = true := hw _ (gm 101 rfl)
theorem wd102 (hw : HW a0 Z) : (Cond.laysFinal c0_ c0_ c28_ c6_).before a0 Z = true := hw _ (gm 102 rfl)
theorem wd103 (hw : HW a0 Z) : (Cond.fieldLink c0_ 37 c0_ "beanName" c6_).before a0 Z = true := hw _ (gm 103 rfl)
theorem wd104 (hw : HW a0 Z) : (Cond.laysFinal c0_ c0_ "beanName" c6_).before a0 Z = true := hw _ (gm 104 rfl)
theorem wd105 (hw : HW a0 Z) : (Cond.fieldLink c0_ 39 c0_ "viewName" c6_).before a0 Z = true := hw _ (gm 105 rfl)
theorem wd106 (hw : HW a0 Z) : (Cond.laysFinal c0_ c0_ "viewName" c6_).before a0 Z = true := hw _ (gm 106 rfl)
theorem wd107 (hw : HW a0 Z) : (Cond.methodLink c3_ 30 ({ cls := c0_, name := "inApplication", desc := c8_ } : Jvm.MethodName)).before a0 Z = true := hw _ (gm 107 rfl)
theorem wd108 (hw : HW a0 Z) : (Cond.declares ({ cls := c0_, name := "inApplication", desc := c8_ } : Jvm.MethodName)).before a0 Z = true := hw _ (gm 108 rfl)
theorem wd109 (hw : HW a0 Z) : (Cond.instanceMethod ({ cls := c0_, name := "inApplication", desc := c8_ } : Jvm.MethodName)).before a0 Z = true := hw _ (gm 109 rfl)
theorem wd110 (hw : HW a0 Z) : (Cond.selects c0_ ({ cls := c0_, name := "inApplication", desc := c8_ } : Jvm.MethodName) ({ cls := c0_, name := "inApplication", desc := c8_ } : Jvm.MethodName)).before a0 Z = true := hw _ (gm 110 rfl)
theorem wd111 (hw : HW a0 Z) : (Cond.code ({ cls := c0_, name := "inApplication", desc := c8_ } : Jvm.MethodName) prog_9_method_5_code 1 (Option.some (FieldType.object c1_))).before a0 Z = true := hw _ (gm 111 rfl)
theorem wd112 (hw : HW a0 Z) : (Cond.classLink c0_ 70 c4_).before a0 Z = true := hw _ (gm 112 rfl)
theorem wd113 (hw : HW a0 Z) : (Cond.instantiable c4_ 4).before a0 Z = true := hw _ (gm 113 rfl)
theorem wd114 (hw : HW a0 Z) : (Cond.initialized c4_).before a0 Z = true := hw _ (gm 114 rfl)
theorem wd115 (hw : HW a0 Z) : (Cond.methodLink c0_ 72 ({ cls := c4_, name := "<init>", desc := "()V" } : Jvm.MethodName)).before a0 Z = true := hw _ (gm 115 rfl)
theorem wd116 (hw : HW a0 Z) : (Cond.instanceMethod ({ cls := c4_, name := "<init>", desc := "()V" } : Jvm.MethodName)).before a0 Z = true := hw _ (gm 116 rfl)
theorem wd117 (hw : HW a0 Z) : (Cond.code ({ cls := c4_, name := "<init>", desc := "()V" } : Jvm.MethodName) jdk_67_method_1_code 1 (Option.none : Option Jvm.ClassFile.FieldType)).before a0 Z = true := hw _ (gm 117 rfl)
theorem wd118 (hw : HW a0 Z) : (Cond.methodLink c4_ 1 ({ cls := c2_, name := "<init>", desc := "(I)V" } : Jvm.MethodName)).before a0 Z = true := hw _ (gm 118 rfl)
theorem wd119 (hw : HW a0 Z) : (Cond.instanceMethod ({ cls := c2_, name := "<init>", desc := "(I)V" } : Jvm.MethodName)).before a0 Z = true := hw _ (gm 119 rfl)
theorem wd122 (hw : HW a0 Z) : (Cond.initialized c2_).before a0 Z = true := hw _ (gm 122 rfl)
theorem wd123 (hw : HW a0 Z) : (Cond.code ({ cls := c2_, name := "<init>", desc := "(I)V" } : Jvm.MethodName) jdk_68_method_2_code 2 (Option.none : Option Jvm.ClassFile.FieldType)).before a0 Z = true := hw _ (gm 123 rfl)
theorem wd124 (hw : HW a0 Z) : (Cond.methodLink c2_ 3 ({ cls := c17_, name := "<init>", desc := "()V" } : Jvm.MethodName)).before a0 Z = true := hw _ (gm 124 rfl)
theorem wd125 (hw : HW a0 Z) : (Cond.fieldLink c2_ 18 c1_ c5_ "Z").before a0 Z = true := hw _ (gm 125 rfl)
theorem wd126 (hw : HW a0 Z) : (Cond.fieldLink c2_ 15 c2_ "value" "[B").before a0 Z = true := hw _ (gm 126 rfl)
theorem wd127 (hw : HW a0 Z) : (Cond.lays c4_ c2_ "value" "[B").before a0 Z = true := hw _ (gm 127 rfl)
theorem wd128 (hw : HW a0 Z) : (Cond.fieldLink c2_ 22 c2_ "coder" "B").before a0 Z = true := hw _ (gm 128 rfl)
theorem wd129 (hw : HW a0 Z) : (Cond.lays c4_ c2_ "coder" "B").before a0 Z = true := hw _ (gm 129 rfl)
theorem wd130 (hw : HW a0 Z) : (Cond.stringLink c0_ 103 "java:app/").before a0 Z = true := hw _ (gm 130 rfl)
theorem wd131 (hw : HW a0 Z) : (Cond.methodLink c0_ 75 ({ cls := c4_, name := "append", desc := c13_ } : Jvm.MethodName)).before a0 Z = true := hw _ (gm 131 rfl)
theorem wd132 (hw : HW a0 Z) : (Cond.declares ({ cls := c4_, name := "append", desc := c13_ } : Jvm.MethodName)).before a0 Z = true := hw _ (gm 132 rfl)
theorem wd133 (hw : HW a0 Z) : (Cond.instanceMethod ({ cls := c4_, name := "append", desc := c13_ } : Jvm.MethodName)).before a0 Z = true := hw _ (gm 133 rfl)
theorem wd134 (hw : HW a0 Z) : (Cond.selects c4_ ({ cls := c4_, name := "append", desc := c13_ } : Jvm.MethodName) ({ cls := c4_, name := "append", desc := c13_ } : Jvm.MethodName)).before a0 Z = true := hw _ (gm 134 rfl)
theorem wd135 (hw : HW a0 Z) : (Cond.code ({ cls := c4_, name := "append", desc := c13_ } : Jvm.MethodName) jdk_67_method_7_code 2 (Option.some (FieldType.object c4_))).before a0 Z = true := hw _ (gm 135 rfl)
theorem wd136 (hw : HW a0 Z) : (Cond.methodLink c4_ 29 ({ cls := c2_, name := "append", desc := c18_ } : Jvm.MethodName)).before a0 Z = true := hw _ (gm 136 rfl)
theorem wd137 (hw : HW a0 Z) : (Cond.instanceMethod ({ cls := c2_, name := "append", desc := c18_ } : Jvm.MethodName)).before a0 Z = true := hw _ (gm 137 rfl)
theorem wd138 (hw : HW a0 Z) : (Cond.superclass c4_ c2_).before a0 Z = true := hw _ (gm 138 rfl)
theorem wd140 (hw : HW a0 Z) : (Cond.code ({ cls := c2_, name := "append", desc := c18_ } : Jvm.MethodName) jdk_68_method_22_code 3 (Option.some (FieldType.object c2_))).before a0 Z = true := hw _ (gm 140 rfl)
theorem wd141 (hw : HW a0 Z) : (Cond.methodLink c2_ 32 ({ cls := c1_, name := "length", desc := "()I" } : Jvm.MethodName)).before a0 Z = true := hw _ (gm 141 rfl)
theorem wd142 (hw : HW a0 Z) : (Cond.declares ({ cls := c1_, name := "length", desc := "()I" } : Jvm.MethodName)).before a0 Z = true := hw _ (gm 142 rfl)
theorem wd143 (hw : HW a0 Z) : (Cond.instanceMethod ({ cls := c1_, name := "length", desc := "()I" } : Jvm.MethodName)).before a0 Z = true := hw _ (gm 143 rfl)
theorem wd144 (hw : HW a0 Z) : (Cond.selects c1_ ({ cls := c1_, name := "length", desc := "()I" } : Jvm.MethodName) ({ cls := c1_, name := "length", desc := "()I" } : Jvm.MethodName)).before a0 Z = true := hw _ (gm 144 rfl)
theorem wd145 (hw : HW a0 Z) : (Cond.code ({ cls := c1_, name := "length", desc := "()I" } : Jvm.MethodName) jdk_42_method_54_code 1 (Option.some FieldType.int)).before a0 Z = true := hw _ (gm 145 rfl)
theorem wd146 (hw : HW a0 Z) : (Cond.fieldLink c2_ 79 c2_ "count" "I").before a0 Z = true := hw _ (gm 146 rfl)
theorem wd147 (hw : HW a0 Z) : (Cond.lays c4_ c2_ "count" "I").before a0 Z = true := hw _ (gm 147 rfl)
theorem wd148 (hw : HW a0 Z) : (Cond.methodLink c2_ 100 ({ cls := c2_, name := c23_, desc := "(I)V" } : Jvm.MethodName)).before a0 Z = true := hw _ (gm 148 rfl)
theorem wd149 (hw : HW a0 Z) : (Cond.instanceMethod ({ cls := c2_, name := c23_, desc := "(I)V" } : Jvm.MethodName)).before a0 Z = true := hw _ (gm 149 rfl)
theorem wd150 (hw : HW a0 Z) : (Cond.privateMethod ({ cls := c2_, name := c23_, desc := "(I)V" } : Jvm.MethodName)).before a0 Z = true := hw _ (gm 150 rfl)
theorem wd151 (hw : HW a0 Z) : (Cond.selects c4_ ({ cls := c2_, name := c23_, desc := "(I)V" } : Jvm.MethodName) ({ cls := c2_, name := c23_, desc := "(I)V" } : Jvm.MethodName)).before a0 Z = true := hw _ (gm 151 rfl)
theorem wd152 (hw : HW a0 Z) : (Cond.code ({ cls := c2_, name := c23_, desc := "(I)V" } : Jvm.MethodName) jdk_68_method_9_code 3 (Option.none : Option Jvm.ClassFile.FieldType)).before a0 Z = true := hw _ (gm 152 rfl)
theorem wd153 (hw : HW a0 Z) : (Cond.methodLink c2_ 208 ({ cls := c2_, name := "putStringAt", desc := "(ILjava/lang/String;)V" } : Jvm.MethodName)).before a0 Z = true := hw _ (gm 153 rfl)
theorem wd154 (hw : HW a0 Z) : (Cond.instanceMethod ({ cls := c2_, name := "putStringAt", desc := "(ILjava/lang/String;)V" } : Jvm.MethodName)).before a0 Z = true := hw _ (gm 154 rfl)
theorem wd155 (hw : HW a0 Z) : (Cond.privateMethod ({ cls := c2_, name := "putStringAt", desc := "(ILjava/lang/String;)V" } : Jvm.MethodName)).before a0 Z = true := hw _ (gm 155 rfl)
theorem wd157 (hw : HW a0 Z) : (Cond.code ({ cls := c2_, name := "putStringAt", desc := "(ILjava/lang/String;)V" } : Jvm.MethodName) jdk_68_method_73_code 3 (Option.none : Option Jvm.ClassFile.FieldType)).before a0 Z = true := hw _ (gm 157 rfl)
theorem wd158 (hw : HW a0 Z) : (Cond.methodLink c2_ 397 ({ cls := c2_, name := "inflateIfNeededFor", desc := "(Ljava/lang/String;)V" } : Jvm.MethodName)).before a0 Z = true := hw _ (gm 158 rfl)
theorem wd159 (hw : HW a0 Z) : (Cond.instanceMethod ({ cls := c2_, name := "inflateIfNeededFor", desc := "(Ljava/lang/String;)V" } : Jvm.MethodName)).before a0 Z = true := hw _ (gm 159 rfl)
theorem wd160 (hw : HW a0 Z) : (Cond.privateMethod ({ cls := c2_, name := "inflateIfNeededFor", desc := "(Ljava/lang/String;)V" } : Jvm.MethodName)).before a0 Z = true := hw _ (gm 160 rfl)
theorem wd162 (hw : HW a0 Z) : (Cond.code ({ cls := c2_, name := "inflateIfNeededFor", desc := "(Ljava/lang/String;)V" } : Jvm.MethodName) jdk_68_method_71_code 2 (Option.none : Option Jvm.ClassFile.FieldType)).before a0 Z = true := hw _ (gm 162 rfl)
theorem wd163 (hw : HW a0 Z) : (Cond.methodLink c2_ 40 ({ cls := c1_, name := "coder", desc := "()B" } : Jvm.MethodName)).before a0 Z = true := hw _ (gm 163 rfl)
theorem wd164 (hw : HW a0 Z) : (Cond.methodLink c2_ 399 ({ cls := c1_, name := "getBytes", desc := "([BIB)V" } : Jvm.MethodName)).before a0 Z = true := hw _ (gm 164 rfl)
theorem wd165 (hw : HW a0 Z) : (Cond.declares ({ cls := c1_, name := "getBytes", desc := "([BIB)V" } : Jvm.MethodName)).before a0 Z = true := hw _ (gm 165 rfl)
theorem wd166 (hw : HW a0 Z) : (Cond.instanceMethod ({ cls := c1_, name := "getBytes", desc := "([BIB)V" } : Jvm.MethodName)).before a0 Z = true := hw _ (gm 166 rfl)
theorem wd167 (hw : HW a0 Z) : (Cond.selects c1_ ({ cls := c1_, name := "getBytes", desc := "([BIB)V" } : Jvm.MethodName) ({ cls := c1_, name := "getBytes", desc := "([BIB)V" } : Jvm.MethodName)).before a0 Z = true := hw _ (gm 167 rfl)
theorem wd168 (hw : HW a0 Z) : (Cond.code ({ cls := c1_, name := "getBytes", desc := "([BIB)V" } : Jvm.MethodName) jdk_42_method_147_code 4 (Option.none : Option Jvm.ClassFile.FieldType)).before a0 Z = true := hw _ (gm 168 rfl)
theorem wd169 (hw : HW a0 Z) : (Cond.methodLink c1_ 212 ({ cls := "java/lang/System", name := "arraycopy", desc := c16_ } : Jvm.MethodName)).before a0 Z = true := hw _ (gm 169 rfl)
theorem wd170 (hw : HW a0 Z) : (Cond.static ({ cls := "java/lang/System", name := "arraycopy", desc := c16_ } : Jvm.MethodName)).before a0 Z = true := hw _ (gm 170 rfl)
theorem wd171 (hw : HW a0 Z) : (Cond.initialized "java/lang/System").before a0 Z = true := hw _ (gm 171 rfl)
theorem wd172 (hw : HW a0 Z) : (Cond.native ({ cls := "java/lang/System", name := "arraycopy", desc := c16_ } : Jvm.MethodName)).before a0 Z = true := hw _ (gm 172 rfl)
theorem wd173 (hw : HW a0 Z) : (Cond.methodLink c0_ 107 ({ cls := c0_, name := "viewSuffix", desc := c8_ } : Jvm.MethodName)).before a0 Z = true := hw _ (gm 173 rfl)
theorem wd174 (hw : HW a0 Z) : (Cond.instanceMethod ({ cls := c0_, name := "viewSuffix", desc := c8_ } : Jvm.MethodName)).before a0 Z = true := hw _ (gm 174 rfl)
theorem wd175 (hw : HW a0 Z) : (Cond.privateMethod ({ cls := c0_, name := "viewSuffix", desc := c8_ } : Jvm.MethodName)).before a0 Z = true := hw _ (gm 175 rfl)
theorem wd176 (hw : HW a0 Z) : (Cond.code ({ cls := c0_, name := "viewSuffix", desc := c8_ } : Jvm.MethodName) prog_9_method_8_code 1 (Option.some (FieldType.object c1_))).before a0 Z = true := hw _ (gm 176 rfl)
theorem wd177 (hw : HW a0 Z) : (Cond.stringLink c0_ 118 "").before a0 Z = true := hw _ (gm 177 rfl)
theorem wd178 (hw : HW a0 Z) : (Cond.methodLink c0_ 84 ({ cls := c4_, name := "toString", desc := c8_ } : Jvm.MethodName)).before a0 Z = true := hw _ (gm 178 rfl)
theorem wd179 (hw : HW a0 Z) : (Cond.declares ({ cls := c4_, name := "toString", desc := c8_ } : Jvm.MethodName)).before a0 Z = true := hw _ (gm 179 rfl)
theorem wd180 (hw : HW a0 Z) : (Cond.instanceMethod ({ cls := c4_, name := "toString", desc := c8_ } : Jvm.MethodName)).before a0 Z = true := hw _ (gm 180 rfl)
theorem wd181 (hw : HW a0 Z) : (Cond.selects c4_ ({ cls := c4_, name := "toString", desc := c8_ } : Jvm.MethodName) ({ cls := c4_, name := "toString", desc := c8_ } : Jvm.MethodName)).before a0 Z = true := hw _ (gm 181 rfl)
theorem wd182 (hw : HW a0 Z) : (Cond.code ({ cls := c4_, name := "toString", desc := c8_ } : Jvm.MethodName) jdk_67_method_42_code 1 (Option.some (FieldType.object c1_))).before a0 Z = true := hw _ (gm 182 rfl)
theorem wd183 (hw : HW a0 Z) : (Cond.classLink c4_ 18 c1_).before a0 Z = true := hw _ (gm 183 rfl)
theorem wd184 (hw : HW a0 Z) : (Cond.methodLink c4_ 137 ({ cls := c1_, name := "<init>", desc := "(Ljava/lang/StringBuilder;)V" } : Jvm.MethodName)).before a0 Z = true := hw _ (gm 184 rfl)
theorem wd185 (hw : HW a0 Z) : (Cond.instanceMethod ({ cls := c1_, name := "<init>", desc := "(Ljava/lang/StringBuilder;)V" } : Jvm.MethodName)).before a0 Z = true := hw _ (gm 185 rfl)
theorem wd186 (hw : HW a0 Z) : (Cond.code ({ cls := c1_, name := "<init>", desc := "(Ljava/lang/StringBuilder;)V" } : Jvm.MethodName) jdk_42_method_53_code 2 (Option.none : Option Jvm.ClassFile.FieldType)).before a0 Z = true := hw _ (gm 186 rfl)
theorem wd187 (hw : HW a0 Z) : (Cond.methodLink c1_ 489 ({ cls := c1_, name := "<init>", desc := c20_ } : Jvm.MethodName)).before a0 Z = true := hw _ (gm 187 rfl)
theorem wd188 (hw : HW a0 Z) : (Cond.instanceMethod ({ cls := c1_, name := "<init>", desc := c20_ } : Jvm.MethodName)).before a0 Z = true := hw _ (gm 188 rfl)
theorem wd189 (hw : HW a0 Z) : (Cond.code ({ cls := c1_, name := "<init>", desc := c20_ } : Jvm.MethodName) jdk_42_method_150_code 5 (Option.none : Option Jvm.ClassFile.FieldType)).before a0 Z = true := hw _ (gm 189 rfl)
theorem wd190 (hw : HW a0 Z) : (Cond.methodLink c1_ 552 ({ cls := c2_, name := "getValue", desc := "()[B" } : Jvm.MethodName)).before a0 Z = true := hw _ (gm 190 rfl)
theorem wd191 (hw : HW a0 Z) : (Cond.declares ({ cls := c2_, name := "getValue", desc := "()[B" } : Jvm.MethodName)).before a0 Z = true := hw _ (gm 191 rfl)
theorem wd192 (hw : HW a0 Z) : (Cond.instanceMethod ({ cls := c2_, name := "getValue", desc := "()[B" } : Jvm.MethodName)).before a0 Z = true := hw _ (gm 192 rfl)
theorem wd193 (hw : HW a0 Z) : (Cond.selects c4_ ({ cls := c2_, name := "getValue", desc := "()[B" } : Jvm.MethodName) ({ cls := c2_, name := "getValue", desc := "()[B" } : Jvm.MethodName)).before a0 Z = true := hw _ (gm 193 rfl)
theorem wd194 (hw : HW a0 Z) : (Cond.code ({ cls := c2_, name := "getValue", desc := "()[B" } : Jvm.MethodName) jdk_68_method_64_code 1 (Option.some (FieldType.array FieldType.byte))).before a0 Z = true := hw _ (gm 194 rfl)
theorem wd195 (hw : HW a0 Z) : (Cond.methodLink c1_ 549 ({ cls := c2_, name := "length", desc := "()I" } : Jvm.MethodName)).before a0 Z = true := hw _ (gm 195 rfl)
theorem wd196 (hw : HW a0 Z) : (Cond.declares ({ cls := c2_, name := "length", desc := "()I" } : Jvm.MethodName)).before a0 Z = true := hw _ (gm 196 rfl)
theorem wd197 (hw : HW a0 Z) : (Cond.instanceMethod ({ cls := c2_, name := "length", desc := "()I" } : Jvm.MethodName)).before a0 Z = true := hw _ (gm 197 rfl)
theorem wd198 (hw : HW a0 Z) : (Cond.selects c4_ ({ cls := c2_, name := "length", desc := "()I" } : Jvm.MethodName) ({ cls := c4_, name := "length", desc := "()I" } : Jvm.MethodName)).before a0 Z = true := hw _ (gm 198 rfl)
theorem wd199 (hw : HW a0 Z) : (Cond.instanceMethod ({ cls := c4_, name := "length", desc := "()I" } : Jvm.MethodName)).before a0 Z = true := hw _ (gm 199 rfl)
theorem wd200 (hw : HW a0 Z) : (Cond.code ({ cls := c4_, name := "length", desc := "()I" } : Jvm.MethodName) jdk_67_method_93_code 1 (Option.some FieldType.int)).before a0 Z = true := hw _ (gm 200 rfl)
theorem wd201 (hw : HW a0 Z) : (Cond.methodLink c4_ 343 ({ cls := c2_, name := "length", desc := "()I" } : Jvm.MethodName)).before a0 Z = true := hw _ (gm 201 rfl)
theorem wd202 (hw : HW a0 Z) : (Cond.code ({ cls := c2_, name := "length", desc := "()I" } : Jvm.MethodName) jdk_68_method_6_code 1 (Option.some FieldType.int)).before a0 Z = true := hw _ (gm 202 rfl)
theorem wd203 (hw : HW a0 Z) : (Cond.methodLink c1_ 1047 ({ cls := c2_, name := "isLatin1", desc := "()Z" } : Jvm.MethodName)).before a0 Z = true := hw _ (gm 203 rfl)
theorem wd204 (hw : HW a0 Z) : (Cond.declares ({ cls := c2_, name := "isLatin1", desc := "()Z" } : Jvm.MethodName)).before a0 Z = true := hw _ (gm 204 rfl)
theorem wd205 (hw : HW a0 Z) : (Cond.instanceMethod ({ cls := c2_, name := "isLatin1", desc := "()Z" } : Jvm.MethodName)).before a0 Z = true := hw _ (gm 205 rfl)
theorem wd206 (hw : HW a0 Z) : (Cond.selects c4_ ({ cls := c2_, name := "isLatin1", desc := "()Z" } : Jvm.MethodName) ({ cls := c2_, name := "isLatin1", desc := "()Z" } : Jvm.MethodName)).before a0 Z = true := hw _ (gm 206 rfl)
theorem wd207 (hw : HW a0 Z) : (Cond.code ({ cls := c2_, name := "isLatin1", desc := "()Z" } : Jvm.MethodName) jdk_68_method_68_code 1 (Option.some FieldType.boolean)).before a0 Z = true := hw _ (gm 207 rfl)
theorem wd208 (hw : HW a0 Z) : (Cond.methodLink c1_ 54 ({ cls := c11_, name := "copyOfRange", desc := "([BII)[B" } : Jvm.MethodName)).before a0 Z = true := hw _ (gm 208 rfl)
theorem wd209 (hw : HW a0 Z) : (Cond.static ({ cls := c11_, name := "copyOfRange", desc := "([BII)[B" } : Jvm.MethodName)).before a0 Z = true := hw _ (gm 209 rfl)
theorem wd210 (hw : HW a0 Z) : (Cond.initialized c11_).before a0 Z = true := hw _ (gm 210 rfl)
theorem wd211 (hw : HW a0 Z) : (Cond.code ({ cls := c11_, name := "copyOfRange", desc := "([BII)[B" } : Jvm.MethodName) jdk_65_method_132_code 3 (Option.some (FieldType.array FieldType.byte))).before a0 Z = true := hw _ (gm 211 rfl)
theorem wd212 (hw : HW a0 Z) : (Cond.methodLink c11_ 339 ({ cls := c11_, name := "copyOfRangeByte", desc := "([BII)[B" } : Jvm.MethodName)).before a0 Z = true := hw _ (gm 212 rfl)
theorem wd213 (hw : HW a0 Z) : (Cond.static ({ cls := c11_, name := "copyOfRangeByte", desc := "([BII)[B" } : Jvm.MethodName)).before a0 Z = true := hw _ (gm 213 rfl)
theorem wd214 (hw : HW a0 Z) : (Cond.code ({ cls := c11_, name := "copyOfRangeByte", desc := "([BII)[B" } : Jvm.MethodName) jdk_65_method_133_code 5 (Option.some (FieldType.array FieldType.byte))).before a0 Z = true := hw _ (gm 214 rfl)
theorem wd215 (hw : HW a0 Z) : (Cond.methodLink c11_ 343 ({ cls := c11_, name := "checkLength", desc := "(II)V" } : Jvm.MethodName)).before a0 Z = true := hw _ (gm 215 rfl)
theorem wd216 (hw : HW a0 Z) : (Cond.static ({ cls := c11_, name := "checkLength", desc := "(II)V" } : Jvm.MethodName)).before a0 Z = true := hw _ (gm 216 rfl)
theorem wd217 (hw : HW a0 Z) : (Cond.code ({ cls := c11_, name := "checkLength", desc := "(II)V" } : Jvm.MethodName) jdk_65_method_131_code 2 (Option.none : Option Jvm.ClassFile.FieldType)).before a0 Z = true := hw _ (gm 217 rfl)
theorem wd218 (hw : HW a0 Z) : (Cond.methodLink c11_ 304 ({ cls := c25_, name := "min", desc := "(II)I" } : Jvm.MethodName)).before a0 Z = true := hw _ (gm 218 rfl)
theorem wd219 (hw : HW a0 Z) : (Cond.static ({ cls := c25_, name := "min", desc := "(II)I" } : Jvm.MethodName)).before a0 Z = true := hw _ (gm 219 rfl)
theorem wd220 (hw : HW a0 Z) : (Cond.initialized c25_).before a0 Z = true := hw _ (gm 220 rfl)
theorem wd221 (hw : HW a0 Z) : (Cond.code ({ cls := c25_, name := "min", desc := "(II)I" } : Jvm.MethodName) jdk_29_method_69_code 2 (Option.some FieldType.int)).before a0 Z = true := hw _ (gm 221 rfl)
theorem wd222 (hw : HW a0 Z) : (Cond.methodLink c11_ 150 ({ cls := "java/lang/System", name := "arraycopy", desc := c16_ } : Jvm.MethodName)).before a0 Z = true := hw _ (gm 222 rfl)
theorem wd223 (hw : HW a0 Z) : (Cond.methodLink c3_ 34 ({ cls := c1_, name := "length", desc := "()I" } : Jvm.MethodName)).before a0 Z = true := hw _ (gm 223 rfl)
theorem wd224 (hw : HW a0 Z) : (Cond.methodLink c3_ 38 ({ cls := c3_, name := "prefixOk", desc := "(Ljava/lang/String;)Z" } : Jvm.MethodName)).before a0 Z = true := hw _ (gm 224 rfl)
theorem wd225 (hw : HW a0 Z) : (Cond.static ({ cls := c3_, name := "prefixOk", desc := "(Ljava/lang/String;)Z" } : Jvm.MethodName)).before a0 Z = true := hw _ (gm 225 rfl)
theorem wd226 (hw : HW a0 Z) : (Cond.code ({ cls := c3_, name := "prefixOk", desc := "(Ljava/lang/String;)Z" } : Jvm.MethodName) method_3_code 1 (Option.some FieldType.boolean)).before a0 Z = true := hw _ (gm 226 rfl)
theorem wd227 (hw : HW a0 Z) : (Cond.methodLink c3_ 7 ({ cls := c1_, name := "charAt", desc := "(I)C" } : Jvm.MethodName)).before a0 Z = true := hw _ (gm 227 rfl)
theorem wd228 (hw : HW a0 Z) : (Cond.declares ({ cls := c1_, name := "charAt", desc := "(I)C" } : Jvm.MethodName)).before a0 Z = true := hw _ (gm 228 rfl)
theorem wd229 (hw : HW a0 Z) : (Cond.instanceMethod ({ cls := c1_, name := "charAt", desc := "(I)C" } : Jvm.MethodName)).before a0 Z = true := hw _ (gm 229 rfl)
theorem wd230 (hw : HW a0 Z) : (Cond.selects c1_ ({ cls := c1_, name := "charAt", desc := "(I)C" } : Jvm.MethodName) ({ cls := c1_, name := "charAt", desc := "(I)C" } : Jvm.MethodName)).before a0 Z = true := hw _ (gm 230 rfl)
theorem wd231 (hw : HW a0 Z) : (Cond.code ({ cls := c1_, name := "charAt", desc := "(I)C" } : Jvm.MethodName) jdk_42_method_56_code 2 (Option.some FieldType.char)).before a0 Z = true := hw _ (gm 231 rfl)
theorem wd232 (hw : HW a0 Z) : (Cond.methodLink c1_ 495 ({ cls := c7_, name := "charAt", desc := "([BI)C" } : Jvm.MethodName)).before a0 Z = true := hw _ (gm 232 rfl)
theorem wd233 (hw : HW a0 Z) : (Cond.static ({ cls := c7_, name := "charAt", desc := "([BI)C" } : Jvm.MethodName)).before a0 Z = true := hw _ (gm 233 rfl)
theorem wd234 (hw : HW a0 Z) : (Cond.code ({ cls := c7_, name := "charAt", desc := "([BI)C" } : Jvm.MethodName) jdk_43_method_2_code 2 (Option.some FieldType.char)).before a0 Z = true := hw _ (gm 234 rfl)
theorem wd235 (hw : HW a0 Z) : (Cond.methodLink c7_ 9 ({ cls := c1_, name := "checkIndex", desc := "(II)V" } : Jvm.MethodName)).before a0 Z = true := hw _ (gm 235 rfl)
theorem wd236 (hw : HW a0 Z) : (Cond.static ({ cls := c1_, name := "checkIndex", desc := "(II)V" } : Jvm.MethodName)).before a0 Z = true := hw _ (gm 236 rfl)
theorem wd237 (hw : HW a0 Z) : (Cond.code ({ cls := c1_, name := "checkIndex", desc := "(II)V" } : Jvm.MethodName) jdk_42_method_155_code 2 (Option.none : Option Jvm.ClassFile.FieldType)).before a0 Z = true := hw _ (gm 237 rfl)
theorem wd238 (hw : HW a0 Z) : (Cond.fieldLink c1_ 1053 c10_ c21_ c12_).before a0 Z = true := hw _ (gm 238 rfl)
theorem wd239 (hw : HW a0 Z) : (Cond.initialized c10_).before a0 Z = true := hw _ (gm 239 rfl)
theorem wd240 (hw : HW a0 Z) : (Cond.methodLink c1_ 1059 ({ cls := c10_, name := "checkIndex", desc := c27_ } : Jvm.MethodName)).before a0 Z = true := hw _ (gm 240 rfl)
theorem wd241 (hw : HW a0 Z) : (Cond.static ({ cls := c10_, name := "checkIndex", desc := c27_ } : Jvm.MethodName)).before a0 Z = true := hw _ (gm 241 rfl)
theorem wd242 (hw : HW a0 Z) : (Cond.code ({ cls := c10_, name := "checkIndex", desc := c27_ } : Jvm.MethodName) jdk_41_method_11_code 3 (Option.some FieldType.int)).before a0 Z = true := hw _ (gm 242 rfl)
theorem wd243 (hw : HW a0 Z) : (Cond.classLink c3_ 8 c1_).before a0 Z = true := hw _ (gm 243 rfl)
theorem wd244 (hw : HW a0 Z) : (Cond.arrayClass FieldType.char).before a0 Z = true := hw _ (gm 244 rfl)
theorem wd245 (hw : HW a0 Z) : (Cond.methodLink c3_ 18 ({ cls := c1_, name := "<init>", desc := "([C)V" } : Jvm.MethodName)).before a0 Z = true := hw _ (gm 245 rfl)
theorem wd246 (hw : HW a0 Z) : (Cond.instanceMethod ({ cls := c1_, name := "<init>", desc := "([C)V" } : Jvm.MethodName)).before a0 Z = true := hw _ (gm 246 rfl)
theorem wd247 (hw : HW a0 Z) : (Cond.code ({ cls := c1_, name := "<init>", desc := "([C)V" } : Jvm.MethodName) jdk_42_method_3_code 2 (Option.none : Option Jvm.ClassFile.FieldType)).before a0 Z = true := hw _ (gm 247 rfl)
theorem wd261 (hw : HW a0 Z) : (Cond.methodLink c11_ 310 ({ cls := "[B", name := "clone", desc := c26_ } : Jvm.MethodName)).before a0 Z = true := hw _ (gm 261 rfl)
theorem wd262 (hw : HW a0 Z) : (Cond.sameMethod "[B" c17_ "clone" c26_).before a0 Z = true := hw _ (gm 262 rfl)
theorem wd264 (hw : HW a0 Z) : (Cond.instanceMethod ({ cls := c17_, name := "clone", desc := c26_ } : Jvm.MethodName)).before a0 Z = true := hw _ (gm 264 rfl)
theorem wd265 (hw : HW a0 Z) : (Cond.selects "[B" ({ cls := "[B", name := "clone", desc := c26_ } : Jvm.MethodName) ({ cls := c17_, name := "clone", desc := c26_ } : Jvm.MethodName)).before a0 Z = true := hw _ (gm 265 rfl)
theorem wd266 (hw : HW a0 Z) : (Cond.native ({ cls := c17_, name := "clone", desc := c26_ } : Jvm.MethodName)).before a0 Z = true := hw _ (gm 266 rfl)
theorem wd267 (hw : HW a0 Z) : (Cond.castable "[B" "java/lang/Cloneable").before a0 Z = true := hw _ (gm 267 rfl)
theorem wd268 (hw : HW a0 Z) : (Cond.classLink c11_ 311 "[B").before a0 Z = true := hw _ (gm 268 rfl)
theorem wd270 (hw : HW a0 Z) : (Cond.methodLink c2_ 104 ({ cls := c2_, name := "newCapacity", desc := "(I)I" } : Jvm.MethodName)).before a0 Z = true := hw _ (gm 270 rfl)
theorem wd271 (hw : HW a0 Z) : (Cond.instanceMethod ({ cls := c2_, name := "newCapacity", desc := "(I)I" } : Jvm.MethodName)).before a0 Z = true := hw _ (gm 271 rfl)
theorem wd272 (hw : HW a0 Z) : (Cond.privateMethod ({ cls := c2_, name := "newCapacity", desc := "(I)I" } : Jvm.MethodName)).before a0 Z = true := hw _ (gm 272 rfl)
theorem wd274 (hw : HW a0 Z) : (Cond.code ({ cls := c2_, name := "newCapacity", desc := "(I)I" } : Jvm.MethodName) jdk_68_method_10_code 6 (Option.some FieldType.int)).before a0 Z = true := hw _ (gm 274 rfl)
theorem wd275 (hw : HW a0 Z) : (Cond.methodLink c2_ 114 ({ cls := c14_, name := "newLength", desc := "(III)I" } : Jvm.MethodName)).before a0 Z = true := hw _ (gm 275 rfl)
theorem wd276 (hw : HW a0 Z) : (Cond.static ({ cls := c14_, name := "newLength", desc := "(III)I" } : Jvm.MethodName)).before a0 Z = true := hw _ (gm 276 rfl)
theorem wd277 (hw : HW a0 Z) : (Cond.initialized c14_).before a0 Z = true := hw _ (gm 277 rfl)
theorem wd278 (hw : HW a0 Z) : (Cond.code ({ cls := c14_, name := "newLength", desc := "(III)I" } : Jvm.MethodName) jdk_48_method_27_code 4 (Option.some FieldType.int)).before a0 Z = true := hw _ (gm 278 rfl)
theorem wd279 (hw : HW a0 Z) : (Cond.methodLink c14_ 194 ({ cls := c25_, name := "max", desc := "(II)I" } : Jvm.MethodName)).before a0 Z = true := hw _ (gm 279 rfl)
theorem wd280 (hw : HW a0 Z) : (Cond.static ({ cls := c25_, name := "max", desc := "(II)I" } : Jvm.MethodName)).before a0 Z = true := hw _ (gm 280 rfl)
theorem wd281 (hw : HW a0 Z) : (Cond.code ({ cls := c25_, name := "max", desc := "(II)I" } : Jvm.MethodName) jdk_29_method_65_code 2 (Option.some FieldType.int)).before a0 Z = true := hw _ (gm 281 rfl)
theorem wd282 (hw : HW a0 Z) : (Cond.constant c14_ 200 (2147483639 : Int32)).before a0 Z = true := hw _ (gm 282 rfl)
theorem wd283 (hw : HW a0 Z) : (Cond.constant c2_ 39 (2147483647 : Int32)).before a0 Z = true := hw _ (gm 283 rfl)
theorem wd284 (hw : HW a0 Z) : (Cond.methodLink c2_ 108 ({ cls := c11_, name := "copyOf", desc := "([BI)[B" } : Jvm.MethodName)).before a0 Z = true := hw _ (gm 284 rfl)
theorem wd285 (hw : HW a0 Z) : (Cond.static ({ cls := c11_, name := "copyOf", desc := "([BI)[B" } : Jvm.MethodName)).before a0 Z = true := hw _ (gm 285 rfl)
theorem wd286 (hw : HW a0 Z) : (Cond.code ({ cls := c11_, name := "copyOf", desc := "([BI)[B" } : Jvm.MethodName) jdk_65_method_121_code 3 (Option.some (FieldType.array FieldType.byte))).before a0 Z = true := hw _ (gm 286 rfl)
end
variable (la : Launch) (Z : State) (a0 : Array Value)

/-! String constants: the words, the invariant -/
theorem own_safe_raw {Z : State} {EL : List (String × Nat)} {vm : Vm} {h : Heap} {x : Addr} (hal : Z.vm.Alike vm) (E : Exa Z h x c1_) (F : Fld Z h x c1_ "value" "[B" .null) : Safe Z EL vm h x := fun B => by
  obtain ⟨p, -, u, a, -, q, -, S, hx⟩ := B
  obtain ⟨cell, kc, e1, e2, -⟩ := E
  rcases hx with rfl | rfl
  · obtain ⟨cS, ⟨⟨h1, -, -, ⟨c1, k1, i1, f1, -⟩, -, -, -, v1, -⟩, -⟩, -⟩ := S
    obtain ⟨cl, cf, k, i, f, g1, g2, -, -, -, -, g7⟩ := F
    obtain ⟨k3, e3, -⟩ := State.fieldFound?_setVm (s := Z) hal g2
    have e4 := (show (Wst Z vm h).fieldFound? _ _ _ = _ from e3).symm.trans f1
    simp only [Option.some.injEq, Prod.mk.injEq] at e4
    cases g1.symm.trans h1
    rw [e4.2.2.2, v1] at g7
    simp at g7
  · have h2 := S.hd
    obtain ⟨cS, -, -, h4, -⟩ := S
    cases e1.symm.trans h2
    have h5 : Z.vm.findClass "[B" = some q.SA.cls := by rw [← hal.findClass]; exact h4
    obtain ⟨k1, a1, a2⟩ := Vm.findClass_spec e2
    obtain ⟨k2, b1, b2⟩ := Vm.findClass_spec h5
    cases a1.symm.trans b1
    exact absurd (a2.symm.trans b2) (by decide)

/-! constants that stand resolved: a callee that loads them again pays nothing -/
theorem own_restand {p : Program} {l : Launch} {e : Env} {R : Room} {s : State} {v w : Vm} {m : MethodId} {args : Array Value} {below : List Frame} {meth : Method} {c : Code} {T : State} {locs : List Loc} {cells slots : Nat} (X : Stand p l e R ((s.setVm v).setVm w) m args below meth c T locs cells slots) : Stand p l e R (s.setVm w) m args below meth c T locs cells slots := X
theorem own_backSL {p : Program} {l : Launch} {e : Env} {R : Room} {s : State} {args : Array Value} {below : List Frame} {Z : State} {a0 : Array Value} {EL : List (String × Nat)} {h : Heap} {vm0 : Vm} {y : MethodName} {bytes : ByteArray} {maxL : Nat} {ret : Option FieldType} {rm : Room} {len W : Nat} {as' : Array Value} {Q : Option Value → Heap → List Loc → Prop}
    {LP : Vm → Prop} {LQ : Vm → Heap → Prop} (hLP : ∀ {vm1 : Vm}, (s.setVm vm0).Warmed39 vm1 → LP vm1)
    (hM : MetFree l y (head1 [Cond.code y bytes maxL ret] rm) (fun a U => a = as' ∧ Z.Warmed39 U.vm ∧ U.heap = h ∧ CHv Z EL U.vm h ∧ LP U.vm) (fun _ _ _ _ _ => True) (fun _ U o U' => ∃ v L, o = .returned v ∧ Q v U'.heap L ∧ (CHr Z EL U.vm U.heap U'.vm U'.heap ∧ LQ U'.vm U'.heap) ∧ ReturnedEndW U o U' L rm.cells rm.slots))
    (hZ : Z.Warmed39 vm0) (wc : (Cond.code y bytes maxL ret).before a0 Z = true) (wz : (Cond.initialized y.cls).before a0 Z = true) (hf : rm.frames + 1 ≤ R.frames) (hl : W + (maxL + 11) + rm.locals ≤ R.locals) (hEL : EW Z a0 EL) (H : CHv Z EL vm0 h) :
    BackS l R p e below (s.setVm vm0) args y len W (fun A a => a = as' ∧ A.U.heap = h ∧ A.cells + rm.cells ≤ R.cells ∧ A.slots + rm.slots ≤ R.slots)
      (fun A _ v B => ∃ L, Q v B.U.heap L ∧ B.locs = A.locs ++ L ∧ B.cells = A.cells + rm.cells ∧ B.slots = A.slots + rm.slots ∧ CHr Z EL vm0 h B.U.vm B.U.heap ∧ LQ B.U.vm B.U.heap) := by
  refine BackS.of_freeW (bytes := bytes) (maxL := maxL) (ret := ret) (E := fun _ fs o t L k n => (k = rm.cells ∧ n = rm.slots) ∧ (∃ v, o = .returned v ∧ Q v t.heap L) ∧ CHr Z EL fs.vm fs.heap t.vm t.heap ∧ LQ t.vm t.heap) hM hf hl ?_ ?_ (fun _ _ _ _ _ _ _ _ _ => trivial) ?_ ?_
  · intro m meth c A a Y hp
    have hU : Z.Warmed39 A.U.vm := wtrans (s := s.setVm vm0) hZ Y.warmed
    refine ⟨?_, mv hU wc, mv hU wz, hp.2.2.1, hp.2.2.2⟩
    show (Cond.and _ .tt).before a A.U = true
    rw [Cond.before_and, mv hU wc]; rfl
  · intro m meth c A a g mk Y hp
    exact ⟨hp.1, wtrans (s := s.setVm vm0) hZ Y.warmed, hp.2.1, (CHv.at Y hZ hEL H).1, hLP (Y.warmed.since 0).1⟩
  · rintro _ _ _ _ ⟨v, L, h1, h2, h3, h4⟩
    exact ⟨L, _, _, h4, ⟨rfl, rfl⟩, ⟨v, h1, h2⟩, h3⟩
  · rintro m meth c A a g mk v t L k n Y hp - - ⟨⟨e1, e2⟩, ⟨v', e3, e4⟩, e5, e6⟩
    cases e3; subst e1 e2
    refine ⟨L, e4, rfl, rfl, rfl, (CHv.at Y hZ hEL H).trans ?_, e6⟩
    rw [← hp.2.1]; exact e5
abbrev ELs : List (String × Nat) := [("com/example/beanloft/beanloft/naming/GlobalName", 105), ("com/example/beanloft/beanloft/naming/GlobalName", 120), ("com/example/beanloft/beanloft/naming/GlobalName", 103), ("com/example/beanloft/beanloft/naming/GlobalName", 118)]
abbrev MW (la : Launch) (Z : State) (hE : Heap) (y : MethodName) (c : ByteArray) (ml : Nat) (r : Option FieldType) (ws : List Cond) (rm : Room) (A : Array Value) (Q : Option Value → Heap → List Loc → Prop) : Prop := MetFree la y (head1 (Cond.code y c ml r :: ws) rm) (fun aa UU => aa = A ∧ Z.Warmed39 UU.vm ∧ UU.heap = hE ∧ CHv Z ELs UU.vm hE) (fun _ _ _ _ _ => True) (fun _ UU oo UV => ∃ vv LL, oo = .returned vv ∧ Q vv UV.heap LL ∧ CHr Z ELs UU.vm UU.heap UV.vm UV.heap ∧ ReturnedEndW UU oo UV LL rm.cells rm.slots)
theorem own_wS {a0 : Array Value} {Z : State} (hw : HW a0 Z) : ∀ a ∈ Bundle.stringAtoms, a.before a0 Z = true := fun d hd => hw d ((by decide +kernel : ∀ d ∈ Bundle.stringAtoms, d ∈ tables_1) d hd)
theorem own_EW {a0 : Array Value} {Z : State} (hw : HW a0 Z) : EW Z a0 ELs := (EW.cons (wd60 hw) (by decide) (EW.cons (wd96 hw) (by decide) (EW.cons (wd130 hw) (by decide) (EW.cons (wd177 hw) (by decide) EW.nil))))

/-! Strings of Latin-1 chars -/
def LStr (Z : State) (h : Heap) (x t : Addr) (cs : List Int32) : Prop :=
  Exa Z h x c1_ ∧ Fld Z h x c1_ "value" "[B" (.ref t) ∧ Fld Z h x c1_ "coder" "B" (.int 0) ∧
    (∃ kb : ClassId, Arv Z h t kb .byte (Int32.ofNat cs.length) (cs.map fun c => Value.int c.toInt8.toInt32) (.int 0)) ∧ (∀ c ∈ cs, ¬ c < 0 ∧ ¬ (255 : Int32) < c) ∧ cs.length ≤ 4000
section OwnStr
variable {Z : State} {h h' : Heap} {x t : Addr} {cs : List Int32} {ws : List Addr}
theorem LStr.ext (F : LStr Z h x t cs) (E : Ext h h') : LStr Z h' x t cs := by
  obtain ⟨a, b, c, ⟨kb, d⟩, f⟩ := F; exact ⟨a.ext E, b.ext E, c.ext E, ⟨kb, d.ext E⟩, f⟩
theorem LStr.keep (F : LStr Z h x t cs) (K : Keep h h' ws) (q : x ∉ ws) (r : t ∉ ws) : LStr Z h' x t cs := by
  obtain ⟨a, b, c, ⟨kb, d⟩, f⟩ := F; exact ⟨a.keep K, b.keep K q, c.keep K q, ⟨kb, d.keep K r⟩, f⟩
theorem LStr.lt (F : LStr Z h x t cs) : x < h.size := F.1.lt
theorem LStr.ltt (F : LStr Z h x t cs) : t < h.size := by obtain ⟨_, _, _, ⟨_, d⟩, _⟩ := F; exact d.lt
theorem own_shr0 (n : Nat) : ((Int32.ofNat n) >>> ((0 : Int32) &&& 31)) = Int32.ofNat n := by
  rw [show ((0 : Int32) &&& 31) = 0 from by decide]; exact Int32.shiftRight_zero
theorem own_len_nn {n : Nat} (h : n ≤ 4000) : ¬ Int32.ofNat n < 0 := by rw [Int32.lt_iff_toInt_lt, Int32.toInt_ofNat_small (by omega)]; simp
theorem own_j0 {j : Int32} {i n : Nat} (hj : j = Int32.ofNat i) (hi : i < n) (hl : n ≤ 4000) : ¬ (j < (0 : Int32)) := by rw [hj]; exact own_len_nn (by omega)
theorem own_jn {j : Int32} {i n : Nat} (hj : j = Int32.ofNat i) (hi : i < n) (hl : n ≤ 4000) : j < Int32.ofNat n := by
  rw [hj, Int32.lt_iff_toInt_lt, Int32.toInt_ofNat_small (by omega), Int32.toInt_ofNat_small (by omega)]; omega
theorem own_jt {j : Int32} {i n : Nat} (hj : j = Int32.ofNat i) (hi : i < n) (hl : n ≤ 4000) : j.toNatClampNeg = i := by rw [hj]; exact Int32.toNatClampNeg_ofNat_of_lt (by omega)
theorem own_vs_at {i : Nat} (hi : i < cs.length) : (cs.map fun c => Value.int c.toInt8.toInt32).getD i (.int 0) = .int ((cs.getD i 0).toInt8.toInt32) := by
  simp [List.getD_eq_getElem?_getD, hi]
theorem own_getD_mem {i : Nat} (hi : i < cs.length) : cs.getD i 0 ∈ cs := by
  rw [show cs.getD i 0 = cs[i] from by simp [List.getD_eq_getElem?_getD, hi]]; exact List.getElem_mem _
theorem own_ch_bv : ∀ n, n < 256 → ((((Int32.ofNat n).toInt8.toInt32 &&& (255 : Int32)).toUInt32.toUInt16.toUInt32.toInt32).toUInt32.toUInt16.toUInt32.toInt32) = Int32.ofNat n := by decide +kernel
theorem own_ch_back {c : Int32} (h : ¬ c < 0 ∧ ¬ (255 : Int32) < c) : nar .char ((c.toInt8.toInt32 &&& (255 : Int32)).toUInt32.toUInt16.toUInt32.toInt32) = c := by
  have e := (back32 h.1).1
  have h2 : c.toNatClampNeg < 256 := by
    have := nat_of h.1; have h3 := h.2; rw [Int32.lt_iff_toInt_lt, this] at h3
    have : ¬ (255 : Int) < (c.toNatClampNeg : Int) := h3
    omega
  have := own_ch_bv c.toNatClampNeg h2
  rw [show Int32.ofNat c.toNatClampNeg = c from e] at this
  exact this
theorem own_nar_char : ∀ n, n < 65536 → nar .char (Int32.ofNat n) = Int32.ofNat n := fun n hn => by
  show (Int32.ofNat n).toUInt32.toUInt16.toUInt32.toInt32 = Int32.ofNat n
  apply Int32.toInt_inj.mp
  rw [Int32.toInt_ofNat_small (by omega)]
  have e : (Int32.ofNat n).toUInt32.toUInt16.toUInt32.toNat = n := by
    simp only [UInt16.toNat_toUInt32, UInt32.toNat_toUInt16]
    show (Int32.ofNat n).toUInt32.toNat % 2 ^ 16 = n
    rw [show (Int32.ofNat n).toUInt32 = UInt32.ofNat n from rfl, UInt32.toNat_ofNat_of_lt' (by show n < 2 ^ 32; omega)]
    omega
  show (((Int32.ofNat n).toUInt32.toUInt16.toUInt32).toInt32).toInt = _
  rw [show ((Int32.ofNat n).toUInt32.toUInt16.toUInt32).toInt32 = Int32.ofNat ((Int32.ofNat n).toUInt32.toUInt16.toUInt32.toNat) from by
    generalize (Int32.ofNat n).toUInt32.toUInt16.toUInt32 = u
    apply Int32.toBitVec_inj.mp; simp [Int32.toBitVec_ofNat], e, Int32.toInt_ofNat_small (by omega)]
theorem own_nar_c {c : Int32} (h : ¬ c < 0 ∧ ¬ (255 : Int32) < c) : nar .char c = c := by
  have e := (back32 h.1).1
  have h2 : c.toNatClampNeg < 65536 := by
    have := nat_of h.1; have h3 := h.2; rw [Int32.lt_iff_toInt_lt, this] at h3
    have : ¬ (255 : Int) < (c.toNatClampNeg : Int) := h3
    omega
  have := own_nar_char c.toNatClampNeg h2
  rw [show Int32.ofNat c.toNatClampNeg = c from e] at this
  exact this
end OwnStr
theorem own_i8 (x : Int32) : (x.toInt8.toInt32).toInt8.toInt32 = x.toInt8.toInt32 := by simp

theorem own_sc {p : Program} {l : Launch} {e : Env} {R : Room} {s : State} {m : MethodId} {args : Array Value} {below : List Frame} {meth : Method} {cd : Code} {T Z : State} {locs : List Loc} {cells slots : Nat} {h : Heap} (X : Stand p l e R s m args below meth cd T locs cells slots) (hx : p.tables.exec = Jvm.exec) (hZ : Z.Warmed39 s.vm) (eT : T.heap = h) {a : Addr} {kC : ClassId} {z : Int32} {vs : List Value} {dv : Value} (V : Arv Z h a kC .char z vs dv)
    (i : Nat) {c j : Int32} (hc : nar .char c = c) (hj : j.toNatClampNeg = i) (hin : ¬ j < 0 ∧ j < z) (hi : i < vs.length) {n0 : Nat} (N : Fr n0 locs) (ga : n0 ≤ a) {g : JFrame} (hg : g.method = m) {rest : List Value} (hs : g.stack = .int c :: .int j :: .ref a :: rest) (hd : decode cd.code g.pc = .ok (.castore, 1)) :
    ∃ T' h' L', Stand p l e R s m args below meth cd T' L' cells slots ∧ T'.heap = h' ∧ Fr n0 L' ∧ Keep h h' [a] ∧ Arv Z h' a kC .char z (vs.set i (.int c)) dv ∧ ∀ target, Steps p.tables e below (T'.setTop { g with pc := g.pc + 1, stack := rest }) target → Steps p.tables e below (T.setTop g) target := by
  obtain ⟨cl, Ar, q1, Sz, Nn, H, G⟩ := V
  obtain ⟨T', h', X', e', W, st⟩ := stC X hx hZ eT Ar (inb_of Sz hin) hg hs hd
  rw [hc] at W
  exact ⟨T', h', _, X', e', Fr.snoc X' N ga, Keep.of_wr W, Arv.set Ar q1 Sz Nn H G (by rw [← hc]; exact fits_nar_char c) W i hj hi, st⟩

/-! StringBuilders of Latin-1 chars -/
abbrev bys (cs : List Int32) : List Value := cs.map fun c => Value.int c.toInt8.toInt32
abbrev pads (cap : Nat) (cs : List Int32) : List Value := bys cs ++ List.replicate (cap - cs.length) (.int 0)
def SBl (Z : State) (h : Heap) (b t : Addr) (cap : Nat) (cs : List Int32) : Prop :=
  Exa Z h b c4_ ∧ Fld Z h b c2_ "value" "[B" (.ref t) ∧ Fld Z h b c2_ "coder" "B" (.int 0) ∧ Fld Z h b c2_ "count" "I" (.int (Int32.ofNat cs.length)) ∧
    (∃ kb : ClassId, Arv Z h t kb .byte (Int32.ofNat cap) (pads cap cs) (.int 0)) ∧ Exa Z h t "[B" ∧ (∀ c ∈ cs, ¬ c < 0 ∧ ¬ (255 : Int32) < c) ∧ cs.length ≤ cap ∧ cap ≤ 120
section OwnSB
variable {Z : State} {h h' : Heap} {b t : Addr} {cap : Nat} {cs ds : List Int32} {ws : List Addr}
theorem SBl.ext (F : SBl Z h b t cap cs) (E : Ext h h') : SBl Z h' b t cap cs := by
  obtain ⟨a, v, c, n, ⟨kb, d⟩, x, f⟩ := F; exact ⟨a.ext E, v.ext E, c.ext E, n.ext E, ⟨kb, d.ext E⟩, x.ext E, f⟩
theorem SBl.keep (F : SBl Z h b t cap cs) (K : Keep h h' ws) (q : b ∉ ws) (r : t ∉ ws) : SBl Z h' b t cap cs := by
  obtain ⟨a, v, c, n, ⟨kb, d⟩, x, f⟩ := F; exact ⟨a.keep K, v.keep K q, c.keep K q, n.keep K q, ⟨kb, d.keep K r⟩, x.keep K, f⟩
theorem SBl.lt (F : SBl Z h b t cap cs) : b < h.size := F.1.lt
theorem SBl.ltt (F : SBl Z h b t cap cs) : t < h.size := by obtain ⟨_, _, _, _, ⟨_, d⟩, _⟩ := F; exact d.lt
theorem own_sh0 (x : Int32) : (x >>> ((0 : Int32) &&& 31)) = x := by rw [show ((0 : Int32) &&& 31) = 0 from by decide]; exact Int32.shiftRight_zero
theorem own_shl0 (x : Int32) : (x <<< ((0 : Int32) &&& 31)) = x := by rw [show ((0 : Int32) &&& 31) = 0 from by decide]; exact Int32.shiftLeft_zero
theorem own_n32 {n : Nat} (h : n ≤ 4000) : (Int32.ofNat n).toNatClampNeg = n := Int32.toNatClampNeg_ofNat_of_lt (by omega)
theorem own_add32 (a b : Nat) : Int32.ofNat a + Int32.ofNat b = Int32.ofNat (a + b) := (Int32.ofNat_add a b).symm
theorem own_lt32 {a b : Nat} (ha : a ≤ 4000) (hb : b ≤ 4000) : Int32.ofNat a < Int32.ofNat b ↔ a < b := by
  rw [Int32.lt_iff_toInt_lt, Int32.toInt_ofNat_small (by omega), Int32.toInt_ofNat_small (by omega)]; omega
theorem own_eq32 {a b : Nat} (ha : a ≤ 4000) (hb : b ≤ 4000) : Int32.ofNat a = Int32.ofNat b ↔ a = b := ⟨fun q => by
  have := congrArg Int32.toInt q; rw [Int32.toInt_ofNat_small (by omega), Int32.toInt_ofNat_small (by omega)] at this; omega, fun q => by rw [q]⟩
theorem own_sub32 {a b : Nat} (h : b ≤ a) : Int32.ofNat a - Int32.ofNat b = Int32.ofNat (a - b) := (Int32.ofNat_sub _ _ h).symm
theorem own_gap {n cap : Nat} (hn : n ≤ 4000) (hc : cap ≤ 4000) : (0 : Int32) < Int32.ofNat n - Int32.ofNat cap ↔ cap < n := by
  rw [Int32.lt_iff_toInt_lt, Int32.toInt_sub, Int32.toInt_ofNat_small (by omega), Int32.toInt_ofNat_small (by omega), Int.bmod_eq_of_le (by omega) (by omega)]
  show (0 : Int) < _ ↔ _; omega
theorem own_us {vs : List Value} {d : Value} {n : Nat} (h : n = vs.length) : vs = (List.range n).map fun i => vs.getD (0 + i) d := by
  subst h; apply List.ext_getElem
  · simp
  · intro i h1 h2; simp [List.getD_eq_getElem?_getD, h1]
theorem own_us_take {vs : List Value} {d : Value} {n : Nat} (h : n ≤ vs.length) : vs.take n = (List.range n).map fun i => vs.getD (0 + i) d := by
  apply List.ext_getElem
  · simp [h]
  · intro i h1 h2
    have h3 : i < n := by simpa using h2
    simp [List.getD_eq_getElem?_getD, show i < vs.length by omega]
theorem own_pads_len (h : cs.length ≤ cap) : (pads cap cs).length = cap := by simp [pads, bys]; omega
theorem own_bys_len (cs : List Int32) : (bys cs).length = cs.length := by simp [bys]
theorem own_bys_take (cs : List Int32) : (bys cs).take cs.length = bys cs := List.take_of_length_le (Nat.le_of_eq (own_bys_len cs))
theorem own_pads_take : (pads cap cs).take cs.length = bys cs := by
  unfold pads; rw [List.take_append_of_le_length (Nat.le_of_eq (own_bys_len cs).symm), own_bys_take]
theorem own_pads_put (h : cs.length + ds.length ≤ cap) : (pads cap cs).take cs.length ++ bys ds ++ (pads cap cs).drop (cs.length + ds.length) = pads cap (cs ++ ds) := by
  rw [own_pads_take]
  have e2 : (pads cap cs).drop (cs.length + ds.length) = List.replicate (cap - (cs.length + ds.length)) (Value.int 0) := by
    unfold pads
    rw [List.drop_append, List.drop_of_length_le (by rw [own_bys_len]; omega), List.nil_append, own_bys_len, List.drop_replicate]
    congr 1; omega
  rw [e2]
  unfold pads
  rw [List.length_append, show bys (cs ++ ds) = bys cs ++ bys ds from List.map_append]
theorem own_pads_grow {c2 : Nat} (h1 : cs.length ≤ cap) (h2 : cap ≤ c2) : ([] ++ List.replicate c2 (Value.int 0)).take 0 ++ pads cap cs ++ ([] ++ List.replicate c2 (Value.int 0)).drop (0 + cap) = pads c2 cs := by
  simp [pads, bys, List.append_assoc, List.replicate_append_replicate]; omega
theorem own_pads_cut (h : cs.length ≤ cap) : ([] ++ List.replicate cs.length (Value.int 0)).take 0 ++ (pads cap cs).take cs.length ++ ([] ++ List.replicate cs.length (Value.int 0)).drop (0 + cs.length) = bys cs := by
  rw [own_pads_take]; simp
theorem own_pads_full (h : cs.length = cap) : pads cap cs = bys cs := by simp [pads, h]
theorem own_bd_app (h1 : ∀ c ∈ cs, ¬ c < 0 ∧ ¬ (255 : Int32) < c) (h2 : ∀ c ∈ ds, ¬ c < 0 ∧ ¬ (255 : Int32) < c) : ∀ c ∈ cs ++ ds, ¬ c < 0 ∧ ¬ (255 : Int32) < c := fun c hc => (List.mem_append.mp hc).elim (h1 c) (h2 c)
def ncap (cap n : Nat) : Nat := if n - cap < cap + 2 then 2 * cap + 2 else n
theorem own_ncap {n : Nat} (h : cap < n) (hn : n ≤ 120) (hc : cap ≤ 50) : n ≤ ncap cap n ∧ cap < ncap cap n ∧ ncap cap n ≤ 120 := by unfold ncap; split <;> omega
theorem own_newlen {n : Nat} (h : cap < n) (hn : n ≤ 120) (hc : cap ≤ 50) : (Int32.ofNat cap + (if (Int32.ofNat n - Int32.ofNat cap) < (Int32.ofNat cap + (2 : Int32)) then (Int32.ofNat cap + (2 : Int32)) else (Int32.ofNat n - Int32.ofNat cap))) = Int32.ofNat (ncap cap n) := by
  rw [own_sub32 (by omega), show (2 : Int32) = Int32.ofNat 2 from rfl, own_add32]
  unfold ncap
  by_cases q : n - cap < cap + 2
  · rw [if_pos ((own_lt32 (by omega) (by omega)).mpr q), if_pos q, own_add32]; congr 1; omega
  · rw [if_neg (fun z => q ((own_lt32 (by omega) (by omega)).mp z)), if_neg q, own_add32]; congr 1; omega
theorem own_big {n : Nat} (h : n ≤ 4000) : ¬ ((2147483639 : Int32) < Int32.ofNat n) := by
  rw [Int32.lt_iff_toInt_lt, Int32.toInt_ofNat_small (by omega), show (2147483639 : Int32).toInt = 2147483639 from by decide]; omega
theorem own_max {n : Nat} (h : n ≤ 4000) : ¬ (Int32.ofNat n = (2147483647 : Int32)) := fun q => by
  have := congrArg Int32.toInt q; rw [Int32.toInt_ofNat_small (by omega), show (2147483647 : Int32).toInt = 2147483647 from by decide] at this; omega
end OwnSB

theorem own_ch_byte {c : Int32} (hn : ¬ (c < (0 : Int32))) (hb : ¬ ((255 : Int32) < c)) {k : Int32} (hk : ¬ (k < (0 : Int32)) ∧ k < (128 : Int32)) (h : ¬ (c = k)) : ¬ ((c.toInt8.toInt32) = k) := fun q => h (by
  have e := own_ch_back ⟨hn, hb⟩
  rw [q] at e
  rw [← e]
  have e2 := (back32 hk.1).1
  have h2 : k.toNatClampNeg < 128 := by have := hk.2; rw [Int32.lt_iff_toInt_lt, nat_of hk.1] at this; have : ((k.toNatClampNeg : Nat) : Int) < 128 := this; omega
  have key : ∀ n, n < 128 → nar .char ((Int32.ofNat n &&& (255 : Int32)).toUInt32.toUInt16.toUInt32.toInt32) = Int32.ofNat n := by decide +kernel
  have := key k.toNatClampNeg h2
  rw [show Int32.ofNat k.toNatClampNeg = k from e2] at this
  exact this)
def chF (q : Int32) : Int32 := if (q &&& (255 : Int32)) = (47 : Int32) then 48 else if (q &&& (255 : Int32)) = (33 : Int32) then 34 else (q &&& (255 : Int32))
theorem own_m255 (q : Int32) : ¬ ((q &&& (255 : Int32)) < (0 : Int32)) ∧ ¬ ((255 : Int32) < (q &&& (255 : Int32))) := by
  have e := Jvm.Kit.i32_mask q 255 (k := 8) (by decide) (by decide)
  have h1 := Int.emod_nonneg q.toInt (show (2 : Int) ^ 8 ≠ 0 by decide)
  have h2 := Int.emod_lt_of_pos q.toInt (show (0 : Int) < 2 ^ 8 by decide)
  rw [Int32.lt_iff_toInt_lt, Int32.lt_iff_toInt_lt, e]
  constructor
  · show ¬ _ < (0 : Int); omega
  · show ¬ (255 : Int) < _; omega
theorem own_chB (q : Int32) : ¬ (chF q < (0 : Int32)) ∧ ¬ ((255 : Int32) < chF q) ∧ ¬ (chF q = (47 : Int32)) ∧ ¬ (chF q = (33 : Int32)) := by
  unfold chF; split
  · decide
  · split
    · decide
    · exact ⟨(own_m255 q).1, (own_m255 q).2, by assumption, by assumption⟩
theorem own_ch47 {q : Int32} (h : (q &&& (255 : Int32)) = (47 : Int32)) : nar .char ((((q &&& (255 : Int32)) + (1 : Int32))).toUInt32.toUInt16.toUInt32.toInt32) = chF q := by unfold chF; rw [if_pos h, h]; decide
theorem own_ch33 {q : Int32} (h1 : ¬ (q &&& (255 : Int32)) = (47 : Int32)) (h : (q &&& (255 : Int32)) = (33 : Int32)) : nar .char ((((q &&& (255 : Int32)) + (1 : Int32))).toUInt32.toUInt16.toUInt32.toInt32) = chF q := by unfold chF; rw [if_neg h1, if_pos h, h]; decide
theorem own_ch0 {q : Int32} (h1 : ¬ (q &&& (255 : Int32)) = (47 : Int32)) (h2 : ¬ (q &&& (255 : Int32)) = (33 : Int32)) : nar .char (((q &&& (255 : Int32))).toUInt32.toUInt16.toUInt32.toInt32) = chF q := by
  unfold chF; rw [if_neg h1, if_neg h2, i2c_mask]; exact own_nar_c (own_m255 q)

theorem own_ixtab {a0 : Array Value} {Z : State} (hw : HW a0 Z) {s : State} {args : Array Value} (hZ : Z.Warmed39 s.vm) : Jvm.Free.Str.IXS.tab.before args s = true := Jvm.SetKit.of_leaves _ fun w h => mv hZ (hw w ((by decide +kernel : ∀ w ∈ Jvm.SetKit.leaves Jvm.Free.Str.IXS.tab, w ∈ tables_1) w h)) ((by decide +kernel : ∀ w ∈ Jvm.SetKit.leaves Jvm.Free.Str.IXS.tab, (w.onTables && w.keepsFace) = true) w h)
theorem own_intAt {c : Cell} {i : Nat} {v : Int32} (h : c.slots[i]? = some (.int v)) : Jvm.Lib.StringLatin1.equals.intAt c i = v := by
  have := Jvm.Lib.StringLatin1.equals.intAt_spec ⟨v, h⟩
  rw [h] at this; exact (Value.int.inj (Option.some.inj this)).symm
theorem own_ixq {Z U : State} {h : Heap} {t u : Addr} {kt ku : ClassId} {cs : List Int32} {D : Int32} (al : Z.vm.Alike U.vm) (eU : U.heap = h) (V : Arv Z h t kt .byte (Int32.ofNat cs.length) (cs.map fun c => Value.int c.toInt8.toInt32) (.int 0)) (V2 : Arv Z h u ku .byte (1 : Int32) [(.int D)] (.int 0)) (hl : cs.length ≤ 4000) (hd : ∀ c ∈ cs, ¬ ((c.toInt8.toInt32) = D)) :
    ∃ q : Addr × Cell × Nat × Addr × Cell × Nat × Nat, Jvm.Free.Str.IXS.P q.1 q.2.1 q.2.2.1 q.2.2.2.1 q.2.2.2.2.1 q.2.2.2.2.2.1 q.2.2.2.2.2.2 #[.ref t, .int (Int32.ofNat cs.length), .ref u, .int 1, .int 0] U ∧ Jvm.Free.Str.IXS.ans q.2.1 q.2.2.2.2.1 q.2.2.1 q.2.2.2.2.2.1 q.2.2.2.2.2.2 = (-1 : Int32) := by
  subst eU
  obtain ⟨A, a1, -, a3, -, a5, -⟩ := V
  obtain ⟨B, b1, -, b3, -, b5, -⟩ := V2
  rw [own_n32 hl] at a3
  have b3' : B.slots.size = 1 := b3
  have hA : ∀ i, i < A.slots.size → A.slots[i]? = some (.int ((cs.getD i 0).toInt8.toInt32)) := fun i hi => by rw [a5 i hi, own_vs_at (by omega)]
  have hB : B.slots[0]? = some (.int D) := by rw [b5 0 (by omega)]; rfl
  have iA : ∀ i, i < A.slots.size → Jvm.Lib.StringLatin1.equals.intAt A i = (cs.getD i 0).toInt8.toInt32 := fun i hi => own_intAt (hA i hi)
  have iB : Jvm.Lib.StringLatin1.equals.intAt B 0 = D := own_intAt hB
  have y1 : Jvm.Free.StrEq.SL1E.Bytes t A U := ⟨a1.1, State.isArrayOf_alike al a1.2.1, a1.2.2, by omega, fun i hi => by rw [iA i hi]; exact hA i hi⟩
  have y2 : Jvm.Free.StrEq.SL1E.Bytes u B U := ⟨b1.1, State.isArrayOf_alike al b1.2.1, b1.2.2, by omega, fun i hi => by
    obtain rfl : i = 0 := by omega
    rw [iB]; exact hB⟩
  have y3 : cs.length + 1 < 2 ^ 31 := by omega
  have y4 : (0 : Nat) < 2 ^ 31 := by decide
  refine ⟨(t, A, cs.length, u, B, 1, 0), ⟨rfl, y1, y2, Nat.le_of_eq a3.symm, y3, Nat.le_refl _, Nat.le_of_eq b3'.symm, y4⟩, ?_⟩
  show Jvm.Free.Str.findFrom (Jvm.Lib.StringLatin1.equals.intAt A) (Jvm.Lib.StringLatin1.equals.intAt B) 1 0 (cs.length + 1 - 1 - 0) = -1
  rcases Jvm.Free.Str.findFrom_spec (Jvm.Lib.StringLatin1.equals.intAt A) (Jvm.Lib.StringLatin1.equals.intAt B) 1 (cs.length + 1 - 1 - 0) 0 with q | ⟨j, -, j2, -, j4, -⟩
  · exact q.1
  · have hj : j < cs.length := by omega
    have e := (Jvm.Free.Str.matchFrom_spec _ _ j 1 0).mp j4 0 (Nat.le_refl _) (by decide)
    rw [Nat.add_zero, iA j (by omega), iB] at e
    exact absurd e (hd _ (own_getD_mem hj))
theorem own_ne0 {n : Nat} (h : n ≠ 0) (hl : n ≤ 4000) : ¬ (Int32.ofNat n = (0 : Int32)) := fun q => h ((own_eq32 (a := n) (b := 0) hl (by omega)).mp q)

theorem dj0_0 : decode jc0 0 = .ok (.getstatic 38, 3) := by decide +kernel
theorem dj0_3 : decode jc0 3 = .ok (.ifCond .eq 10, 3) := by decide +kernel
theorem dj0_6 : decode jc0 6 = .ok (.aload_n 0, 1) := by decide +kernel
theorem dj0_7 : decode jc0 7 = .ok (.getfield 15, 3) := by decide +kernel
theorem dj0_10 : decode jc0 10 = .ok (.goto 4, 3) := by decide +kernel
theorem dj0_14 : decode jc0 14 = .ok (.ireturn, 1) := by decide +kernel
theorem pn_java_lang_String : plainName "java/lang/String" = true := by first | (simp [plainName, overriddenIn]; done) | decide +kernel
theorem ef_coder (mi : MethodId) (x : Addr) : entryFrame mi #[(.ref x)] 1 = mkF mi 0 #[.val (.ref x)] [] := rfl
def Q_coder (Z : State) (x : Addr) (zc : Int32) (hE : Heap) (n0 : Nat) (vv : Option Value) (hh : Heap) (LL : List Loc) : Prop := (vv = some (.int 0)) ∧ (Fr n0 LL) ∧ (hh = hE)
theorem rm_coder (hw : HW a0 Z) (ws : List Cond) (x : Addr) (zc : Int32) (hE : Heap) (n0 : Nat) (O : Old Z n0 hE) (P0_ : Fld Z hE x c1_ "coder" "B" (.int 0)) (D0_ : Sta Z Z.heap c1_ c5_ "Z" (.int zc)) (hzc : ¬ (zc = (0 : Int32))) :
    MF la Z hE mn0 jc0 1 (some .byte) ws (rr 0 0 0 0) #[(.ref x)] (Q_coder Z x zc hE n0) := by
  refine MetFree.of_bodySF (plainFor_of_name pn_java_lang_String) hisR ?_
  intro pg ev sb mi gs below me cd s₁ Bd hml0 hPt hKt
  obtain ⟨rfl, hZ, hh⟩ := hPt
  have hx := Bd.exec
  have hby := Bd.bytes
  have hml : cd.maxLocals = 1 := hml0
  have hown : sb.vm.findClass c1_ = some mi.cls := findClass_of_methodNamed Bd.named
  have X0 : Stand pg la ev (rr 0 0 0 0) sb mi #[(.ref x)] below me cd s₁ [] 0 0 := Stand.of_body Bd
  have eE : s₁.heap = hE := by rw [← hh, Bd.state]; rfl
  have N0 := Fr.nil n0
  have pre0 : ∀ tt, SP pg ev below (s₁.setTop (mkF mi 0 #[.val (.ref x)] [])) tt → SP pg ev below (s₁.setTop (entryFrame mi #[(.ref x)] 1)) tt := fun tt kk => castTop (ef_coder mi x) kk
  obtain ⟨T101, X101, e101, st101⟩ := getS2 X0 hx hZ hown (host := "") (Or.inl (wd8 hw)) Via.refl eE (D0_.ext O.2) (g := (mkF mi 0 #[.val (.ref x)] [])) rfl (hb hby dj0_0)
  obtain ⟨T102, X102, e102, st102⟩ := getF X101 hx hZ hown (host := "") (Or.inl (wd28 hw)) Via.refl e101 P0_ (g := (mkF mi 7 #[.val (.ref x)] [(.ref x)])) rfl rfl (hb hby dj0_7)
  obtain ⟨fs, hr, hrun, hended, hW, hsame⟩ := X102.leave (v := some (.int 0)) (fun hq => by rw [Bd.returns] at hq; cases hq)
  refine ⟨_, _, pre0 _ ?_, hrun, hended, _, _, rfl, ?_, ⟨_, rfl⟩, hW, hsame.mono (by decide) (by decide)⟩
  · show SP pg ev below (s₁.setTop (mkF mi 0 #[.val (.ref x)] [])) _
    refine st101 _ ?_
    refine XS.ifNo X101.here hx rfl (hb hby dj0_3) rfl ((if0 _ _).trans (feq hzc).1) ?_
    refine XS.aloadN X101.here hx rfl (hb hby dj0_6) rfl rfl ?_
    refine st102 _ ?_
    refine XS.goto X102.here hx rfl (pc0 := 10) (pc' := 14) rfl (hb hby dj0_10) (by decide) (by decide) ?_
    show SP pg ev below (T102.setTop (mkF mi 14 #[.val (.ref x)] [(.int 0)])) _
    exact retN X102 hx (t := .byte) Bd.returns (by simp) (hb hby dj0_14) hr
  · show Q_coder Z x zc hE n0 _ T102.heap _
    rw [e102]
    exact ⟨rfl, N0, rfl⟩
theorem dj12_0 : decode jc12 0 = .ok (.aload_n 0, 1) := by decide +kernel
theorem dj12_1 : decode jc12 1 = .ok (.getfield 9, 3) := by decide +kernel
theorem dj12_4 : decode jc12 4 = .ok (.arraylength, 1) := by decide +kernel
theorem dj12_5 : decode jc12 5 = .ok (.aload_n 0, 1) := by decide +kernel
theorem dj12_6 : decode jc12 6 = .ok (.invokevirtual 335, 3) := by decide +kernel
theorem dj12_9 : decode jc12 9 = .ok (.ishr, 1) := by decide +kernel
theorem dj12_10 : decode jc12 10 = .ok (.ireturn, 1) := by decide +kernel
theorem pd_0 : parseMethodDescriptor "()B" = some ⟨[], some .byte⟩ := by decide +kernel
theorem ef_slen (mi : MethodId) (x : Addr) : entryFrame mi #[(.ref x)] 1 = mkF mi 0 #[.val (.ref x)] [] := rfl
def Q_slen (Z : State) (x t : Addr) (cs : List Int32) (zc : Int32) (hE : Heap) (n0 : Nat) (vv : Option Value) (hh : Heap) (LL : List Loc) : Prop := (vv = some (.int (Int32.ofNat cs.length))) ∧ (Fr n0 LL) ∧ (hh = hE)
theorem rm_slen (hw : HW a0 Z) (ws : List Cond) (x t : Addr) (cs : List Int32) (zc : Int32) (hE : Heap) (n0 : Nat) (O : Old Z n0 hE) (P0_ : LStr Z hE x t cs) (D0_ : Sta Z Z.heap c1_ c5_ "Z" (.int zc)) (hzc : ¬ (zc = (0 : Int32))) :
    MF la Z hE mn1 jc12 1 (some .int) ws (rr 1 0 0 13) #[(.ref x)] (Q_slen Z x t cs zc hE n0) := by
  refine MetFree.of_bodySF (plainFor_of_name pn_java_lang_String) hisR ?_
  intro pg ev sb mi gs below me cd s₁ Bd hml0 hPt hKt
  obtain ⟨rfl, hZ, hh⟩ := hPt
  have hx := Bd.exec
  have hby := Bd.bytes
  have hml : cd.maxLocals = 1 := hml0
  have hown : sb.vm.findClass c1_ = some mi.cls := findClass_of_methodNamed Bd.named
  have X0 : Stand pg la ev (rr 1 0 0 13) sb mi #[(.ref x)] below me cd s₁ [] 0 0 := Stand.of_body Bd
  have eE : s₁.heap = hE := by rw [← hh, Bd.state]; rfl
  have N0 := Fr.nil n0
  have pre0 : ∀ tt, SP pg ev below (s₁.setTop (mkF mi 0 #[.val (.ref x)] [])) tt → SP pg ev below (s₁.setTop (entryFrame mi #[(.ref x)] 1)) tt := fun tt kk => castTop (ef_slen mi x) kk
  obtain ⟨sE101, sV101, sC101, ⟨kb101, sK101⟩, sb101, sl101⟩ := id P0_
  obtain ⟨T102, X102, e102, st102⟩ := getF X0 hx hZ hown (host := "") (Or.inl (wd26 hw)) Via.refl eE sV101 (g := (mkF mi 1 #[.val (.ref x)] [(.ref x)])) rfl rfl (hb hby dj12_1)
  obtain ⟨cl103, Ar103, -, Sz103, Nn103, -, -⟩ := id sK101
  obtain ⟨cq104, kq104, q104a, q104b, q104c⟩ := isOf hZ e102 sE101
  obtain ⟨v104, _, ⟨T104, L104, k104, n104⟩, -, X104, ⟨Lc104, hQ104, l104, y104, z104⟩, st104⟩ := X102.virtualBack hx (y := mn0) (z := mn0) hown (mvT hZ (wd80 hw)) (mvT hZ (wd81 hw)) (notFace_of_selects (args := #[]) (mvT hZ (wd83 hw))) (mvT hZ (wd83 hw)) (mvT hZ (wd82 hw)) (by decide) (backOf (W := 1) (rm_coder la Z a0 hw [] x zc hE n0 O sC101 D0_ (hzc : ¬ (zc = (0 : Int32)))) hZ (wd84 hw) (wd6 hw) (by decide) (by decide)) q104a q104c (g := (mkF mi 6 #[.val (.ref x)] [(.ref x), (.int (Int32.ofNat cs.length))])) rfl (by rw [hml]; rfl) (Steps.refl _) (argsL := []) (rest := [(.int (Int32.ofNat cs.length))]) (lenOf pd_0 rfl) rfl (Nat.le_of_ble_eq_true rfl) (hb hby dj12_6) (fun _ _ => ⟨rfl, e102, (by decide : 0 + 0 ≤ _), (by decide : 0 + 0 ≤ _)⟩)
  dsimp only [Pt.U, Pt.locs, Pt.cells, Pt.slots] at X104 l104 y104 z104 st104 hQ104
  subst l104 y104 z104
  obtain ⟨rfl, Nq104, ek104⟩ := hQ104
  have N104 := Fr.app N0 Nq104
  obtain ⟨fs, hr, hrun, hended, hW, hsame⟩ := X104.leave (v := some (.int ((Int32.ofNat cs.length) >>> ((0 : Int32) &&& 31)))) (fun hq => by rw [Bd.returns] at hq; cases hq)
  refine ⟨_, _, pre0 _ ?_, hrun, hended, _, _, rfl, ?_, ⟨_, rfl⟩, hW, hsame.mono (by decide) (by decide)⟩
  · show SP pg ev below (s₁.setTop (mkF mi 0 #[.val (.ref x)] [])) _
    refine XS.aloadN X0.here hx rfl (hb hby dj12_0) rfl rfl ?_
    refine st102 _ ?_
    refine X102.arraylength hx (cell := cl103) (by rw [e102]; exact Ar103.1) (State.isArrayOf_alike hZ.alike Ar103.2.1) (g := (mkF mi 4 #[.val (.ref x)] [(.ref t)])) rfl (rest := []) rfl (hb hby dj12_4) _ ?_
    rw [len_of Sz103 Nn103]
    refine XS.aloadN X102.here hx rfl (hb hby dj12_5) rfl rfl ?_
    refine st104.trans ?_
    refine XS.ishr X104.here hx rfl (hb hby dj12_9) rfl ?_
    show SP pg ev below (T104.setTop (mkF mi 10 #[.val (.ref x)] [(.int ((Int32.ofNat cs.length) >>> ((0 : Int32) &&& 31)))])) _
    exact retI X104 hx Bd.returns (hb hby dj12_10) hr
  · show Q_slen Z x t cs zc hE n0 _ T104.heap _
    rw [ek104]
    exact ⟨(congrArg (fun z => some (Value.int z)) (own_shr0 cs.length)), N104, rfl⟩
theorem dj1_0 : decode jc1 0 = .ok (.getstatic 38, 3) := by decide +kernel
theorem dj1_3 : decode jc1 3 = .ok (.ifCond .eq 14, 3) := by decide +kernel
theorem dj1_6 : decode jc1 6 = .ok (.aload_n 0, 1) := by decide +kernel
theorem dj1_7 : decode jc1 7 = .ok (.getfield 15, 3) := by decide +kernel
theorem dj1_10 : decode jc1 10 = .ok (.ifCond .ne 7, 3) := by decide +kernel
theorem dj1_13 : decode jc1 13 = .ok (.iconst 1, 1) := by decide +kernel
theorem dj1_14 : decode jc1 14 = .ok (.goto 4, 3) := by decide +kernel
theorem dj1_18 : decode jc1 18 = .ok (.ireturn, 1) := by decide +kernel
theorem ef_isl1 (mi : MethodId) (x : Addr) : entryFrame mi #[(.ref x)] 1 = mkF mi 0 #[.val (.ref x)] [] := rfl
def Q_isl1 (Z : State) (x : Addr) (zc : Int32) (hE : Heap) (n0 : Nat) (vv : Option Value) (hh : Heap) (LL : List Loc) : Prop := (vv = some (.int 1)) ∧ (Fr n0 LL) ∧ (hh = hE)
theorem rm_isl1 (hw : HW a0 Z) (ws : List Cond) (x : Addr) (zc : Int32) (hE : Heap) (n0 : Nat) (O : Old Z n0 hE) (P0_ : Fld Z hE x c1_ "coder" "B" (.int 0)) (D0_ : Sta Z Z.heap c1_ c5_ "Z" (.int zc)) (hzc : ¬ (zc = (0 : Int32))) :
    MF la Z hE mn2 jc1 1 (some .boolean) ws (rr 0 0 0 0) #[(.ref x)] (Q_isl1 Z x zc hE n0) := by
  refine MetFree.of_bodySF (plainFor_of_name pn_java_lang_String) hisR ?_
  intro pg ev sb mi gs below me cd s₁ Bd hml0 hPt hKt
  obtain ⟨rfl, hZ, hh⟩ := hPt
  have hx := Bd.exec
  have hby := Bd.bytes
  have hml : cd.maxLocals = 1 := hml0
  have hown : sb.vm.findClass c1_ = some mi.cls := findClass_of_methodNamed Bd.named
  have X0 : Stand pg la ev (rr 0 0 0 0) sb mi #[(.ref x)] below me cd s₁ [] 0 0 := Stand.of_body Bd
  have eE : s₁.heap = hE := by rw [← hh, Bd.state]; rfl
  have N0 := Fr.nil n0
  have pre0 : ∀ tt, SP pg ev below (s₁.setTop (mkF mi 0 #[.val (.ref x)] [])) tt → SP pg ev below (s₁.setTop (entryFrame mi #[(.ref x)] 1)) tt := fun tt kk => castTop (ef_isl1 mi x) kk
  obtain ⟨T101, X101, e101, st101⟩ := getS2 X0 hx hZ hown (host := "") (Or.inl (wd8 hw)) Via.refl eE (D0_.ext O.2) (g := (mkF mi 0 #[.val (.ref x)] [])) rfl (hb hby dj1_0)
  obtain ⟨T102, X102, e102, st102⟩ := getF X101 hx hZ hown (host := "") (Or.inl (wd28 hw)) Via.refl e101 P0_ (g := (mkF mi 7 #[.val (.ref x)] [(.ref x)])) rfl rfl (hb hby dj1_7)
  obtain ⟨fs, hr, hrun, hended, hW, hsame⟩ := X102.leave (v := some (.int 1)) (fun hq => by rw [Bd.returns] at hq; cases hq)
  refine ⟨_, _, pre0 _ ?_, hrun, hended, _, _, rfl, ?_, ⟨_, rfl⟩, hW, hsame.mono (by decide) (by decide)⟩
  · show SP pg ev below (s₁.setTop (mkF mi 0 #[.val (.ref x)] [])) _
    refine st101 _ ?_
    refine XS.ifNo X101.here hx rfl (hb hby dj1_3) rfl ((if0 _ _).trans (feq hzc).1) ?_
    refine XS.aloadN X101.here hx rfl (hb hby dj1_6) rfl rfl ?_
    refine st102 _ ?_
    refine XS.ifNo X102.here hx rfl (hb hby dj1_10) rfl ((if0 _ _).trans (teq (rfl : (0 : Int32) = (0 : Int32))).2) ?_
    refine XS.iconst X102.here hx rfl (hb hby dj1_13) ?_
    refine XS.goto X102.here hx rfl (pc0 := 14) (pc' := 18) rfl (hb hby dj1_14) (by decide) (by decide) ?_
    show SP pg ev below (T102.setTop (mkF mi 18 #[.val (.ref x)] [(.int 1)])) _
    exact retN X102 hx (t := .boolean) Bd.returns (by simp) (hb hby dj1_18) hr
  · show Q_isl1 Z x zc hE n0 _ T102.heap _
    rw [e102]
    exact ⟨rfl, N0, rfl⟩
theorem dj13_0 : decode jc13 0 = .ok (.iload_n 0, 1) := by decide +kernel
theorem dj13_1 : decode jc13 1 = .ok (.ifCond .lt 8, 3) := by decide +kernel
theorem dj13_4 : decode jc13 4 = .ok (.iload_n 0, 1) := by decide +kernel
theorem dj13_5 : decode jc13 5 = .ok (.iload_n 1, 1) := by decide +kernel
theorem dj13_6 : decode jc13 6 = .ok (.if_icmp .lt 10, 3) := by decide +kernel
theorem dj13_16 : decode jc13 16 = .ok (.iload_n 0, 1) := by decide +kernel
theorem dj13_17 : decode jc13 17 = .ok (.ireturn, 1) := by decide +kernel
theorem pn_jdk_internal_util_Preconditions : plainName "jdk/internal/util/Preconditions" = true := by first | (simp [plainName, overriddenIn]; done) | decide +kernel
theorem ef_pchk (mi : MethodId) (i : Int32) (n : Int32) (fm : Value) (hx_fm : fm.isRef = true) : entryFrame mi #[(.int i), (.int n), fm] 3 = mkF mi 0 #[.val (.int i), .val (.int n), .val fm] [] := by rcases ref_cases hx_fm with rfl | ⟨_, rfl⟩ <;> (first | (simp [entryFrame, mkF, argsToLocals, Value.category]; done) | rfl)
def Q_pchk (Z : State) (i n : Int32) (fm : Value) (hE : Heap) (n0 : Nat) (vv : Option Value) (hh : Heap) (LL : List Loc) : Prop := (vv = some (.int i)) ∧ (Fr n0 LL) ∧ (hh = hE)
theorem rm_pchk (hw : HW a0 Z) (ws : List Cond) (i n : Int32) (fm : Value) (hE : Heap) (n0 : Nat) (O : Old Z n0 hE) (hi0 : ¬ (i < (0 : Int32))) (hin : i < n) (hfm : fm.isRef = true) :
    MF la Z hE mn3 jc13 3 (some .int) ws (rr 0 0 0 0) #[(.int i), (.int n), fm] (Q_pchk Z i n fm hE n0) := by
  refine MetFree.of_bodySF (plainFor_of_name pn_jdk_internal_util_Preconditions) hisR ?_
  intro pg ev sb mi gs below me cd s₁ Bd hml0 hPt hKt
  obtain ⟨rfl, hZ, hh⟩ := hPt
  have hx := Bd.exec
  have hby := Bd.bytes
  have hml : cd.maxLocals = 3 := hml0
  have hown : sb.vm.findClass c10_ = some mi.cls := findClass_of_methodNamed Bd.named
  have X0 : Stand pg la ev (rr 0 0 0 0) sb mi #[(.int i), (.int n), fm] below me cd s₁ [] 0 0 := Stand.of_body Bd
  have eE : s₁.heap = hE := by rw [← hh, Bd.state]; rfl
  have N0 := Fr.nil n0
  have pre0 : ∀ tt, SP pg ev below (s₁.setTop (mkF mi 0 #[.val (.int i), .val (.int n), .val fm] [])) tt → SP pg ev below (s₁.setTop (entryFrame mi #[(.int i), (.int n), fm] 3)) tt := fun tt kk => castTop (ef_pchk mi i n fm hfm) kk
  obtain ⟨fs, hr, hrun, hended, hW, hsame⟩ := X0.leave (v := some (.int i)) (fun hq => by rw [Bd.returns] at hq; cases hq)
  refine ⟨_, _, pre0 _ ?_, hrun, hended, _, _, rfl, ?_, ⟨_, rfl⟩, hW, hsame.mono (by decide) (by decide)⟩
  · show SP pg ev below (s₁.setTop (mkF mi 0 #[.val (.int i), .val (.int n), .val fm] [])) _
    refine XS.iloadN X0.here hx rfl (hb hby dj13_0) rfl ?_
    refine XS.ifNo X0.here hx rfl (hb hby dj13_1) rfl ((if0 _ _).trans (flt hi0).1) ?_
    refine XS.iloadN X0.here hx rfl (hb hby dj13_4) rfl ?_
    refine XS.iloadN X0.here hx rfl (hb hby dj13_5) rfl ?_
    refine XS.icmpYes X0.here hx rfl (pc0 := 6) (pc' := 16) rfl (hb hby dj13_6) rfl (tlt hin).1 (by decide) (by decide) ?_
    refine XS.iloadN X0.here hx rfl (hb hby dj13_16) rfl ?_
    show SP pg ev below (s₁.setTop (mkF mi 17 #[.val (.int i), .val (.int n), .val fm] [(.int i)])) _
    exact retI X0 hx Bd.returns (hb hby dj13_17) hr
  · show Q_pchk Z i n fm hE n0 _ s₁.heap _
    rw [eE]
    exact ⟨rfl, N0, rfl⟩
theorem dj2_0 : decode jc2 0 = .ok (.iload_n 0, 1) := by decide +kernel
theorem dj2_1 : decode jc2 1 = .ok (.iload_n 1, 1) := by decide +kernel
theorem dj2_2 : decode jc2 2 = .ok (.getstatic 1053, 3) := by decide +kernel
theorem dj2_5 : decode jc2 5 = .ok (.invokestatic 1059, 3) := by decide +kernel
theorem dj2_8 : decode jc2 8 = .ok (.pop, 1) := by decide +kernel
theorem dj2_9 : decode jc2 9 = .ok (.return_, 1) := by decide +kernel
theorem pd_1 : parseMethodDescriptor "(IILjava/util/function/BiFunction;)I" = some ⟨[.int, .int, (.object "java/util/function/BiFunction")], some .int⟩ := by decide +kernel
theorem ef_schk (mi : MethodId) (i : Int32) (n : Int32) : entryFrame mi #[(.int i), (.int n)] 2 = mkF mi 0 #[.val (.int i), .val (.int n)] [] := rfl
def Q_schk (Z : State) (i n : Int32) (fm : Value) (hE : Heap) (n0 : Nat) (vv : Option Value) (hh : Heap) (LL : List Loc) : Prop := (vv = none) ∧ (Fr n0 LL) ∧ (hh = hE)
theorem rm_schk (hw : HW a0 Z) (ws : List Cond) (i n : Int32) (fm : Value) (hE : Heap) (n0 : Nat) (O : Old Z n0 hE) (D0_ : Sta Z Z.heap c10_ c21_ c12_ fm) (hi0 : ¬ (i < (0 : Int32))) (hin : i < n) (hfm : fm.isRef = true) :
    MF la Z hE mn4 jc2 2 none ws (rr 1 0 0 14) #[(.int i), (.int n)] (Q_schk Z i n fm hE n0) := by
  refine MetFree.of_bodySF (plainFor_of_name pn_java_lang_String) hisR ?_
  intro pg ev sb mi gs below me cd s₁ Bd hml0 hPt hKt
  obtain ⟨rfl, hZ, hh⟩ := hPt
  have hx := Bd.exec
  have hby := Bd.bytes
  have hml : cd.maxLocals = 2 := hml0
  have hown : sb.vm.findClass c1_ = some mi.cls := findClass_of_methodNamed Bd.named
  have X0 : Stand pg la ev (rr 1 0 0 14) sb mi #[(.int i), (.int n)] below me cd s₁ [] 0 0 := Stand.of_body Bd
  have eE : s₁.heap = hE := by rw [← hh, Bd.state]; rfl
  have N0 := Fr.nil n0
  have pre0 : ∀ tt, SP pg ev below (s₁.setTop (mkF mi 0 #[.val (.int i), .val (.int n)] [])) tt → SP pg ev below (s₁.setTop (entryFrame mi #[(.int i), (.int n)] 2)) tt := fun tt kk => castTop (ef_schk mi i n) kk
  obtain ⟨T101, X101, e101, st101⟩ := getS2 X0 hx hZ hown (host := "") (Or.inl (wd238 hw)) Via.refl eE (D0_.ext O.2) (g := (mkF mi 2 #[.val (.int i), .val (.int n)] [(.int n), (.int i)])) rfl (hb hby dj2_2)
  obtain ⟨v102, _, ⟨T102, L102, k102, n102⟩, -, X102, ⟨Lc102, hQ102, l102, y102, z102⟩, st102⟩ := Jvm.LawKit.callS X101 hx (y := mn3) hown (mvT hZ (wd240 hw)) (mvT hZ (wd241 hw)) (mvT hZ (wd239 hw)) (mvT hZ (wd242 hw)) (by decide) (backOf (W := 0) (rm_pchk la Z a0 hw [] i n fm hE n0 O (hi0 : ¬ (i < (0 : Int32))) (hin : i < n) (hfm : fm.isRef = true)) hZ (wd242 hw) (wd239 hw) (by decide) (by decide)) (g := (mkF mi 5 #[.val (.int i), .val (.int n)] [fm, (.int n), (.int i)])) rfl (by rw [hml]; rfl) (argsL := [(.int i), (.int n), fm]) (rest := []) (lenOf pd_1 rfl) rfl (Nat.le_of_ble_eq_true rfl) (hb hby dj2_5) (fun _ _ => ⟨rfl, e101, (by decide : 0 + 0 ≤ _), (by decide : 0 + 0 ≤ _)⟩)
  dsimp only [Pt.U, Pt.locs, Pt.cells, Pt.slots] at X102 l102 y102 z102 st102 hQ102
  subst l102 y102 z102
  obtain ⟨rfl, Nq102, ek102⟩ := hQ102
  have N102 := Fr.app N0 Nq102
  obtain ⟨fs, hr, hrun, hended, hW, hsame⟩ := X102.leave (v := none) (fun _ => rfl)
  refine ⟨_, _, pre0 _ ?_, hrun, hended, _, _, rfl, ?_, ⟨_, rfl⟩, hW, hsame.mono (by decide) (by decide)⟩
  · show SP pg ev below (s₁.setTop (mkF mi 0 #[.val (.int i), .val (.int n)] [])) _
    refine XS.iloadN X0.here hx rfl (hb hby dj2_0) rfl ?_
    refine XS.iloadN X0.here hx rfl (hb hby dj2_1) rfl ?_
    refine st101 _ ?_
    refine st102 _ ?_
    refine XS.pop X102.here hx rfl (hb hby dj2_8) rfl rfl ?_
    show SP pg ev below (T102.setTop (mkF mi 9 #[.val (.int i), .val (.int n)] [])) _
    exact X102.returnOut hx Bd.returns (hb hby dj2_9) hr
  · show Q_schk Z i n fm hE n0 _ T102.heap _
    rw [ek102]
    exact ⟨rfl, N102, rfl⟩
theorem dj33_0 : decode jc33 0 = .ok (.iload_n 1, 1) := by decide +kernel
theorem dj33_1 : decode jc33 1 = .ok (.aload_n 0, 1) := by decide +kernel
theorem dj33_2 : decode jc33 2 = .ok (.arraylength, 1) := by decide +kernel
theorem dj33_3 : decode jc33 3 = .ok (.invokestatic 9, 3) := by decide +kernel
theorem dj33_6 : decode jc33 6 = .ok (.aload_n 0, 1) := by decide +kernel
theorem dj33_7 : decode jc33 7 = .ok (.iload_n 1, 1) := by decide +kernel
theorem dj33_8 : decode jc33 8 = .ok (.baload, 1) := by decide +kernel
theorem dj33_9 : decode jc33 9 = .ok (.sipush 255, 3) := by decide +kernel
theorem dj33_12 : decode jc33 12 = .ok (.iand, 1) := by decide +kernel
theorem dj33_13 : decode jc33 13 = .ok (.i2c, 1) := by decide +kernel
theorem dj33_14 : decode jc33 14 = .ok (.ireturn, 1) := by decide +kernel
theorem pd_2 : parseMethodDescriptor "(II)V" = some ⟨[.int, .int], none⟩ := by decide +kernel
theorem pn_java_lang_StringLatin1 : plainName "java/lang/StringLatin1" = true := by first | (simp [plainName, overriddenIn]; done) | decide +kernel
theorem ef_l1ch (mi : MethodId) (t : Addr) (j : Int32) : entryFrame mi #[(.ref t), (.int j)] 2 = mkF mi 0 #[.val (.ref t), .val (.int j)] [] := rfl
def Q_l1ch (Z : State) (t : Addr) (j : Int32) (kb : ClassId) (cs : List Int32) (i : Nat) (fm : Value) (hE : Heap) (n0 : Nat) (vv : Option Value) (hh : Heap) (LL : List Loc) : Prop := (vv = some (.int (cs.getD i 0))) ∧ (Fr n0 LL) ∧ (hh = hE)
theorem rm_l1ch (hw : HW a0 Z) (ws : List Cond) (t : Addr) (j : Int32) (kb : ClassId) (cs : List Int32) (i : Nat) (fm : Value) (hE : Heap) (n0 : Nat) (O : Old Z n0 hE) (P0_ : Arv Z hE t kb .byte (Int32.ofNat cs.length) (cs.map fun c => Value.int c.toInt8.toInt32) (.int 0)) (D0_ : Sta Z Z.heap c10_ c21_ c12_ fm) (hj : j = Int32.ofNat i) (hi : i < cs.length) (hl : cs.length ≤ 4000) (hbd : ∀ c ∈ cs, ¬ c < 0 ∧ ¬ (255 : Int32) < c) (hfm : fm.isRef = true) :
    MF la Z hE mn5 jc33 2 (some .char) ws (rr 2 0 0 27) #[(.ref t), (.int j)] (Q_l1ch Z t j kb cs i fm hE n0) := by
  refine MetFree.of_bodySF (plainFor_of_name pn_java_lang_StringLatin1) hisR ?_
  intro pg ev sb mi gs below me cd s₁ Bd hml0 hPt hKt
  obtain ⟨rfl, hZ, hh⟩ := hPt
  have hx := Bd.exec
  have hby := Bd.bytes
  have hml : cd.maxLocals = 2 := hml0
  have hown : sb.vm.findClass c7_ = some mi.cls := findClass_of_methodNamed Bd.named
  have X0 : Stand pg la ev (rr 2 0 0 27) sb mi #[(.ref t), (.int j)] below me cd s₁ [] 0 0 := Stand.of_body Bd
  have eE : s₁.heap = hE := by rw [← hh, Bd.state]; rfl
  have N0 := Fr.nil n0
  have pre0 : ∀ tt, SP pg ev below (s₁.setTop (mkF mi 0 #[.val (.ref t), .val (.int j)] [])) tt → SP pg ev below (s₁.setTop (entryFrame mi #[(.ref t), (.int j)] 2)) tt := fun tt kk => castTop (ef_l1ch mi t j) kk
  obtain ⟨cl101, Ar101, -, Sz101, Nn101, -, -⟩ := id P0_
  obtain ⟨v102, _, ⟨T102, L102, k102, n102⟩, -, X102, ⟨Lc102, hQ102, l102, y102, z102⟩, st102⟩ := Jvm.LawKit.callS X0 hx (y := mn4) hown (mvT hZ (wd235 hw)) (mvT hZ (wd236 hw)) (mvT hZ (wd6 hw)) (mvT hZ (wd237 hw)) (by decide) (backOf (W := 0) (rm_schk la Z a0 hw [] j (Int32.ofNat cs.length) fm hE n0 O D0_ (own_j0 hj hi hl : ¬ (j < (0 : Int32))) (own_jn hj hi hl : j < (Int32.ofNat cs.length)) (hfm : fm.isRef = true)) hZ (wd237 hw) (wd6 hw) (by decide) (by decide)) (g := (mkF mi 3 #[.val (.ref t), .val (.int j)] [(.int (Int32.ofNat cs.length)), (.int j)])) rfl (by rw [hml]; rfl) (argsL := [(.int j), (.int (Int32.ofNat cs.length))]) (rest := []) (lenOf pd_2 rfl) rfl (Nat.le_of_ble_eq_true rfl) (hb hby dj33_3) (fun _ _ => ⟨rfl, eE, (by decide : 0 + 0 ≤ _), (by decide : 0 + 0 ≤ _)⟩)
  dsimp only [Pt.U, Pt.locs, Pt.cells, Pt.slots] at X102 l102 y102 z102 st102 hQ102
  subst l102 y102 z102
  obtain ⟨rfl, Nq102, ek102⟩ := hQ102
  have N102 := Fr.app N0 Nq102
  obtain ⟨cl103, Ar103, -, Sz103, Nn103, Hh103, -⟩ := id P0_
  have hin103 : ¬ (j < 0 ∨ cl103.slots.size ≤ (j).toNatClampNeg) := inb_of Sz103 ⟨own_j0 hj hi hl, own_jn hj hi hl⟩
  have hat103 : cl103.slots[(j).toNatClampNeg]? = some (.int ((cs.getD i 0).toInt8.toInt32)) := Hh103.at hin103 (by rw [own_jt hj hi hl]; exact own_vs_at hi)
  obtain ⟨fs, hr, hrun, hended, hW, hsame⟩ := X102.leave (v := some (.int (nar .char ((((cs.getD i 0).toInt8.toInt32) &&& (255 : Int32)).toUInt32.toUInt16.toUInt32.toInt32)))) (fun hq => by rw [Bd.returns] at hq; cases hq)
  refine ⟨_, _, pre0 _ ?_, hrun, hended, _, _, rfl, ?_, ⟨_, rfl⟩, hW, hsame.mono (by decide) (by decide)⟩
  · show SP pg ev below (s₁.setTop (mkF mi 0 #[.val (.ref t), .val (.int j)] [])) _
    refine XS.iloadN X0.here hx rfl (hb hby dj33_0) rfl ?_
    refine XS.aloadN X0.here hx rfl (hb hby dj33_1) rfl rfl ?_
    refine X0.arraylength hx (cell := cl101) (by rw [eE]; exact Ar101.1) (State.isArrayOf_alike hZ.alike Ar101.2.1) (g := (mkF mi 2 #[.val (.ref t), .val (.int j)] [(.ref t), (.int j)])) rfl (rest := [(.int j)]) rfl (hb hby dj33_2) _ ?_
    rw [len_of Sz101 Nn101]
    refine st102 _ ?_
    refine XS.aloadN X102.here hx rfl (hb hby dj33_6) rfl rfl ?_
    refine XS.iloadN X102.here hx rfl (hb hby dj33_7) rfl ?_
    refine X102.baloadBytes hx (j := j) (v := (.int ((cs.getD i 0).toInt8.toInt32))) (by rw [ek102]; exact Ar103.1) (State.isArrayOf_alike hZ.alike Ar103.2.1) Ar103.2.2 hin103 hat103 (g := (mkF mi 8 #[.val (.ref t), .val (.int j)] [(.int j), (.ref t)])) rfl rfl (hb hby dj33_8) _ ?_
    refine XS.sipush X102.here hx rfl (hb hby dj33_9) ?_
    refine XS.iand X102.here hx rfl (hb hby dj33_12) rfl ?_
    refine XS.i2c X102.here hx rfl (hb hby dj33_13) rfl ?_
    show SP pg ev below (T102.setTop (mkF mi 14 #[.val (.ref t), .val (.int j)] [(.int ((((cs.getD i 0).toInt8.toInt32) &&& (255 : Int32)).toUInt32.toUInt16.toUInt32.toInt32))])) _
    exact retN X102 hx (t := .char) Bd.returns (by simp) (hb hby dj33_14) hr
  · show Q_l1ch Z t j kb cs i fm hE n0 _ T102.heap _
    rw [ek102]
    exact ⟨(congrArg (fun z => some (Value.int z)) (own_ch_back (hbd _ (own_getD_mem hi)))), N102, rfl⟩
theorem dj14_0 : decode jc14 0 = .ok (.aload_n 0, 1) := by decide +kernel
theorem dj14_1 : decode jc14 1 = .ok (.invokevirtual 492, 3) := by decide +kernel
theorem dj14_4 : decode jc14 4 = .ok (.ifCond .eq 12, 3) := by decide +kernel
theorem dj14_7 : decode jc14 7 = .ok (.aload_n 0, 1) := by decide +kernel
theorem dj14_8 : decode jc14 8 = .ok (.getfield 9, 3) := by decide +kernel
theorem dj14_11 : decode jc14 11 = .ok (.iload_n 1, 1) := by decide +kernel
theorem dj14_12 : decode jc14 12 = .ok (.invokestatic 495, 3) := by decide +kernel
theorem dj14_15 : decode jc14 15 = .ok (.ireturn, 1) := by decide +kernel
theorem pd_3 : parseMethodDescriptor "()Z" = some ⟨[], some .boolean⟩ := by decide +kernel
theorem pd_4 : parseMethodDescriptor "([BI)C" = some ⟨[(.array .byte), .int], some .char⟩ := by decide +kernel
theorem ef_sch (mi : MethodId) (x : Addr) (j : Int32) : entryFrame mi #[(.ref x), (.int j)] 2 = mkF mi 0 #[.val (.ref x), .val (.int j)] [] := rfl
def Q_sch (Z : State) (x : Addr) (j : Int32) (t : Addr) (cs : List Int32) (i : Nat) (zc : Int32) (fm : Value) (hE : Heap) (n0 : Nat) (vv : Option Value) (hh : Heap) (LL : List Loc) : Prop := (vv = some (.int (cs.getD i 0))) ∧ (Fr n0 LL) ∧ (hh = hE)
theorem rm_sch (hw : HW a0 Z) (ws : List Cond) (x : Addr) (j : Int32) (t : Addr) (cs : List Int32) (i : Nat) (zc : Int32) (fm : Value) (hE : Heap) (n0 : Nat) (O : Old Z n0 hE) (P0_ : LStr Z hE x t cs) (D0_ : Sta Z Z.heap c1_ c5_ "Z" (.int zc)) (D1_ : Sta Z Z.heap c10_ c21_ c12_ fm) (hj : j = Int32.ofNat i) (hi : i < cs.length) (hzc : ¬ (zc = (0 : Int32))) (hfm : fm.isRef = true) :
    MF la Z hE mn6 jc14 2 (some .char) ws (rr 3 0 0 40) #[(.ref x), (.int j)] (Q_sch Z x j t cs i zc fm hE n0) := by
  refine MetFree.of_bodySF (plainFor_of_name pn_java_lang_String) hisR ?_
  intro pg ev sb mi gs below me cd s₁ Bd hml0 hPt hKt
  obtain ⟨rfl, hZ, hh⟩ := hPt
  have hx := Bd.exec
  have hby := Bd.bytes
  have hml : cd.maxLocals = 2 := hml0
  have hown : sb.vm.findClass c1_ = some mi.cls := findClass_of_methodNamed Bd.named
  have X0 : Stand pg la ev (rr 3 0 0 40) sb mi #[(.ref x), (.int j)] below me cd s₁ [] 0 0 := Stand.of_body Bd
  have eE : s₁.heap = hE := by rw [← hh, Bd.state]; rfl
  have N0 := Fr.nil n0
  have pre0 : ∀ tt, SP pg ev below (s₁.setTop (mkF mi 0 #[.val (.ref x), .val (.int j)] [])) tt → SP pg ev below (s₁.setTop (entryFrame mi #[(.ref x), (.int j)] 2)) tt := fun tt kk => castTop (ef_sch mi x j) kk
  obtain ⟨sE101, sV101, sC101, ⟨kb101, sK101⟩, sb101, sl101⟩ := id P0_
  obtain ⟨cq102, kq102, q102a, q102b, q102c⟩ := isOf hZ eE sE101
  obtain ⟨v102, _, ⟨T102, L102, k102, n102⟩, -, X102, ⟨Lc102, hQ102, l102, y102, z102⟩, st102⟩ := X0.virtualBack hx (y := mn2) (z := mn2) hown (mvT hZ (wd85 hw)) (mvT hZ (wd86 hw)) (notFace_of_selects (args := #[]) (mvT hZ (wd88 hw))) (mvT hZ (wd88 hw)) (mvT hZ (wd87 hw)) (by decide) (backOf (W := 0) (rm_isl1 la Z a0 hw [] x zc hE n0 O sC101 D0_ (hzc : ¬ (zc = (0 : Int32)))) hZ (wd89 hw) (wd6 hw) (by decide) (by decide)) q102a q102c (g := (mkF mi 1 #[.val (.ref x), .val (.int j)] [(.ref x)])) rfl (by rw [hml]; rfl) (Steps.refl _) (argsL := []) (rest := []) (lenOf pd_3 rfl) rfl (Nat.le_of_ble_eq_true rfl) (hb hby dj14_1) (fun _ _ => ⟨rfl, eE, (by decide : 0 + 0 ≤ _), (by decide : 0 + 0 ≤ _)⟩)
  dsimp only [Pt.U, Pt.locs, Pt.cells, Pt.slots] at X102 l102 y102 z102 st102 hQ102
  subst l102 y102 z102
  obtain ⟨rfl, Nq102, ek102⟩ := hQ102
  have N102 := Fr.app N0 Nq102
  obtain ⟨T103, X103, e103, st103⟩ := getF X102 hx hZ hown (host := "") (Or.inl (wd26 hw)) Via.refl ek102 sV101 (g := (mkF mi 8 #[.val (.ref x), .val (.int j)] [(.ref x)])) rfl rfl (hb hby dj14_8)
  obtain ⟨v104, _, ⟨T104, L104, k104, n104⟩, -, X104, ⟨Lc104, hQ104, l104, y104, z104⟩, st104⟩ := Jvm.LawKit.callS X103 hx (y := mn5) hown (mvT hZ (wd232 hw)) (mvT hZ (wd233 hw)) (mvT hZ (wd11 hw)) (mvT hZ (wd234 hw)) (by decide) (backOf (W := 0) (rm_l1ch la Z a0 hw [] t j kb101 cs i fm hE n0 O sK101 D1_ (hj : j = Int32.ofNat i) (hi : i < cs.length) (sl101 : cs.length ≤ 4000) (sb101 : ∀ c ∈ cs, ¬ c < 0 ∧ ¬ (255 : Int32) < c) (hfm : fm.isRef = true)) hZ (wd234 hw) (wd11 hw) (by decide) (by decide)) (g := (mkF mi 12 #[.val (.ref x), .val (.int j)] [(.int j), (.ref t)])) rfl (by rw [hml]; rfl) (argsL := [(.ref t), (.int j)]) (rest := []) (lenOf pd_4 rfl) rfl (Nat.le_of_ble_eq_true rfl) (hb hby dj14_12) (fun _ _ => ⟨rfl, e103, (by decide : 0 + 0 ≤ _), (by decide : 0 + 0 ≤ _)⟩)
  dsimp only [Pt.U, Pt.locs, Pt.cells, Pt.slots] at X104 l104 y104 z104 st104 hQ104
  subst l104 y104 z104
  obtain ⟨rfl, Nq104, ek104⟩ := hQ104
  have N104 := Fr.app N102 Nq104
  obtain ⟨fs, hr, hrun, hended, hW, hsame⟩ := X104.leave (v := some (.int (nar .char (cs.getD i 0)))) (fun hq => by rw [Bd.returns] at hq; cases hq)
  refine ⟨_, _, pre0 _ ?_, hrun, hended, _, _, rfl, ?_, ⟨_, rfl⟩, hW, hsame.mono (by decide) (by decide)⟩
  · show SP pg ev below (s₁.setTop (mkF mi 0 #[.val (.ref x), .val (.int j)] [])) _
    refine XS.aloadN X0.here hx rfl (hb hby dj14_0) rfl rfl ?_
    refine st102.trans ?_
    refine XS.ifNo X102.here hx rfl (hb hby dj14_4) rfl ((if0 _ _).trans (feq (by decide : ¬ ((1 : Int32) = (0 : Int32)))).1) ?_
    refine XS.aloadN X102.here hx rfl (hb hby dj14_7) rfl rfl ?_
    refine st103 _ ?_
    refine XS.iloadN X103.here hx rfl (hb hby dj14_11) rfl ?_
    refine st104 _ ?_
    show SP pg ev below (T104.setTop (mkF mi 15 #[.val (.ref x), .val (.int j)] [(.int (cs.getD i 0))])) _
    exact retN X104 hx (t := .char) Bd.returns (by simp) (hb hby dj14_15) hr
  · show Q_sch Z x j t cs i zc fm hE n0 _ T104.heap _
    rw [ek104]
    exact ⟨(congrArg (fun z => some (Value.int z)) (own_nar_c (sb101 _ (own_getD_mem hi)))), N104, rfl⟩
theorem dj34_0 : decode jc34 0 = .ok (.aload_n 0, 1) := by decide +kernel
theorem dj34_1 : decode jc34 1 = .ok (.invokespecial 3, 3) := by decide +kernel
theorem dj34_4 : decode jc34 4 = .ok (.getstatic 18, 3) := by decide +kernel
theorem dj34_7 : decode jc34 7 = .ok (.ifCond .eq 18, 3) := by decide +kernel
theorem dj34_10 : decode jc34 10 = .ok (.aload_n 0, 1) := by decide +kernel
theorem dj34_11 : decode jc34 11 = .ok (.iload_n 1, 1) := by decide +kernel
theorem dj34_12 : decode jc34 12 = .ok (.newarray .byte, 2) := by decide +kernel
theorem dj34_14 : decode jc34 14 = .ok (.putfield 15, 3) := by decide +kernel
theorem dj34_17 : decode jc34 17 = .ok (.aload_n 0, 1) := by decide +kernel
theorem dj34_18 : decode jc34 18 = .ok (.iconst 0, 1) := by decide +kernel
theorem dj34_19 : decode jc34 19 = .ok (.putfield 22, 3) := by decide +kernel
theorem dj34_22 : decode jc34 22 = .ok (.goto 16, 3) := by decide +kernel
theorem dj34_38 : decode jc34 38 = .ok (.return_, 1) := by decide +kernel
theorem pn_java_lang_AbstractStringBuilder : plainName "java/lang/AbstractStringBuilder" = true := by first | (simp [plainName, overriddenIn]; done) | decide +kernel
theorem ef_asbi (mi : MethodId) (b : Addr) : entryFrame mi #[(.ref b), (.int 16)] 2 = mkF mi 0 #[.val (.ref b), .val (.int 16)] [] := rfl
def Q_asbi (Z : State) (b : Addr) (zc : Int32) (hE : Heap) (n0 : Nat) (vv : Option Value) (hh : Heap) (LL : List Loc) : Prop := ∃ t : Addr, (vv = none) ∧ (Fr n0 LL) ∧ (Keep hE hh [b]) ∧ (hE.size ≤ t) ∧ (SBl Z hh b t 16 ([] : List Int32))
theorem rm_asbi (hw : HW a0 Z) (ws : List Cond) (b : Addr) (zc : Int32) (hE : Heap) (n0 : Nat) (O : Old Z n0 hE) (P0_ : Exa Z hE b c4_) (P1_ : Fld Z hE b c2_ "value" "[B" .null) (P2_ : Fld Z hE b c2_ "coder" "B" (.int 0)) (P3_ : Fld Z hE b c2_ "count" "I" (.int 0)) (D0_ : Sta Z Z.heap c1_ c5_ "Z" (.int zc)) (g_b : n0 ≤ b) (hzc : ¬ (zc = (0 : Int32))) :
    MF la Z hE mn7 jc34 2 none ws (rr 1 1 16 12) #[(.ref b), (.int 16)] (Q_asbi Z b zc hE n0) := by
  refine MetFree.of_bodySF (plainFor_of_name pn_java_lang_AbstractStringBuilder) hisR ?_
  intro pg ev sb mi gs below me cd s₁ Bd hml0 hPt hKt
  obtain ⟨rfl, hZ, hh⟩ := hPt
  have hx := Bd.exec
  have hby := Bd.bytes
  have hml : cd.maxLocals = 2 := hml0
  have hown : sb.vm.findClass c2_ = some mi.cls := findClass_of_methodNamed Bd.named
  have X0 : Stand pg la ev (rr 1 1 16 12) sb mi #[(.ref b), (.int 16)] below me cd s₁ [] 0 0 := Stand.of_body Bd
  have eE : s₁.heap = hE := by rw [← hh, Bd.state]; rfl
  have N0 := Fr.nil n0
  have pre0 : ∀ tt, SP pg ev below (s₁.setTop (mkF mi 0 #[.val (.ref b), .val (.int 16)] [])) tt → SP pg ev below (s₁.setTop (entryFrame mi #[(.ref b), (.int 16)] 2)) tt := fun tt kk => castTop (ef_asbi mi b) kk
  obtain ⟨T101, X101, e101, st101⟩ := initO X0 hx hZ hown (wd124 hw) (wd24 hw) (wd25 hw) eE (g := (mkF mi 1 #[.val (.ref b), .val (.int 16)] [(.ref b)])) rfl (by rw [hml]; rfl) rfl (hb hby dj34_1) (by decide) (W := 0) (Nat.le_of_ble_eq_true rfl) (by decide)
  obtain ⟨T102, X102, e102, st102⟩ := getS2 X101 hx hZ hown (host := "") (Or.inl (wd125 hw)) Via.refl e101 (D0_.ext O.2) (g := (mkF mi 4 #[.val (.ref b), .val (.int 16)] [])) rfl (hb hby dj34_4)
  obtain ⟨T103, h103, k103, X103, e103, E103, A103, B103, st103⟩ := newPE (aty := .byte) X102 hx hZ (wd18 hw) e102 (g := (mkF mi 12 #[.val (.ref b), .val (.int 16)] [(.int 16), (.ref b)])) rfl (hb hby dj34_12) rfl (by decide) (cap := 16) (by decide) (by decide) (by decide) (by decide) (ad := "[B") (by decide)
  obtain ⟨b103, q103⟩ : ∃ z, z = hE.size := ⟨_, rfl⟩
  rw [← q103] at A103 B103 st103
  have f104 : Arv Z h103 b103 k103 .byte (16 : Int32) ([] ++ List.replicate (16) (.int 0)) (.int 0) := (Arv.new A103 (by decide)).pad (pad_rep [] (.int 0) (16))
  have f105 : Exa Z h103 b c4_ := (P0_.ext E103)
  have f106 : Fld Z h103 b c2_ "value" "[B" .null := (P1_.ext E103)
  obtain ⟨T107, h107, X107, e107, W107, st107⟩ := putF X103 hx hZ hown (host := "") (Or.inl (wd126 hw)) Via.refl e103 f106 f105 (Or.inl (wd127 hw)) (wd113 hw) (ty := (.array .byte)) (by decide) rfl rfl (g := (mkF mi 14 #[.val (.ref b), .val (.int 16)] [(.ref b103), (.ref b)])) rfl rfl (hb hby dj34_14)
  have N107 := Fr.snoc X107 N0 g_b
  have f108 : Fld Z h107 b c2_ "value" "[B" (.ref b103) := f106.same W107
  have f109 : Exa Z h107 b c4_ := (f105.keep (Keep.of_wr W107))
  have f110 : Fld Z h107 b c2_ "coder" "B" (.int 0) := ((P2_.ext E103).other W107 (Or.inr (slot_ne (Or.inl (wd129 hw)) (Or.inl (wd127 hw)) (by decide) (t := .byte) (t' := (.array .byte)) (by decide) (by decide))))
  obtain ⟨T111, h111, X111, e111, W111, st111⟩ := putFN X107 hx hZ hown (wd128 hw) Via.refl e107 f110 f109 (Or.inl (wd129 hw)) (wd113 hw) (ty := .byte) (v' := (.int 0)) (by decide) rfl rfl (g := (mkF mi 19 #[.val (.ref b), .val (.int 16)] [(.int 0), (.ref b)])) rfl rfl (hb hby dj34_19)
  have N111 := Fr.snoc X111 N107 g_b
  have f112 : Fld Z h111 b c2_ "coder" "B" (.int 0) := f110.same W111
  have f114 : Exa Z h111 b c4_ := (f109.keep (Keep.of_wr W111))
  have f115 : Fld Z h111 b c2_ "value" "[B" (.ref b103) := (f108.other W111 (Or.inr (slot_ne (Or.inl (wd127 hw)) (Or.inl (wd129 hw)) (by decide) (t := (.array .byte)) (t' := .byte) (by decide) (by decide))))
  have f116 : Fld Z h111 b c2_ "count" "I" (.int 0) := (((P3_.ext E103).other W107 (Or.inr (slot_ne (Or.inl (wd147 hw)) (Or.inl (wd127 hw)) (by decide) (t := .int) (t' := (.array .byte)) (by decide) (by decide)))).other W111 (Or.inr (slot_ne (Or.inl (wd147 hw)) (Or.inl (wd129 hw)) (by decide) (t := .int) (t' := .byte) (by decide) (by decide))))
  have ne_b_b103 : b ≠ b103 := Nat.ne_of_lt (Nat.lt_of_lt_of_le P0_.lt (Nat.le_trans (Nat.le_refl _) (Nat.le_of_eq q103.symm)))
  have f117 : Arv Z h111 b103 k103 .byte (16 : Int32) ([] ++ List.replicate (16) (.int 0)) (.int 0) := ((f104.keep (Keep.of_wr W107) (ninS (Ne.symm ne_b_b103) nin0)).keep (Keep.of_wr W111) (ninS (Ne.symm ne_b_b103) nin0))
  have f118 : Exa Z h111 b103 "[B" := ((B103.keep (Keep.of_wr W107)).keep (Keep.of_wr W111))
  have s113 : SBl Z h111 b b103 16 ([] : List Int32) := ⟨f114, f115, f112, f116, ⟨_, f117⟩, f118, (by intro c hc; cases hc), (by decide), (by decide)⟩
  obtain ⟨fs, hr, hrun, hended, hW, hsame⟩ := X111.leave (v := none) (fun _ => rfl)
  refine ⟨_, _, pre0 _ ?_, hrun, hended, _, _, rfl, ?_, ⟨_, rfl⟩, hW, hsame.mono (by decide) (by decide)⟩
  · show SP pg ev below (s₁.setTop (mkF mi 0 #[.val (.ref b), .val (.int 16)] [])) _
    refine XS.aloadN X0.here hx rfl (hb hby dj34_0) rfl rfl ?_
    refine st101 _ ?_
    refine st102 _ ?_
    refine XS.ifNo X102.here hx rfl (hb hby dj34_7) rfl ((if0 _ _).trans (feq hzc).1) ?_
    refine XS.aloadN X102.here hx rfl (hb hby dj34_10) rfl rfl ?_
    refine XS.iloadN X102.here hx rfl (hb hby dj34_11) rfl ?_
    refine st103 _ ?_
    refine st107 _ ?_
    refine XS.aloadN X107.here hx rfl (hb hby dj34_17) rfl rfl ?_
    refine XS.iconst X107.here hx rfl (hb hby dj34_18) ?_
    refine st111 _ ?_
    refine XS.goto X111.here hx rfl (pc0 := 22) (pc' := 38) rfl (hb hby dj34_22) (by decide) (by decide) ?_
    show SP pg ev below (T111.setTop (mkF mi 38 #[.val (.ref b), .val (.int 16)] [])) _
    exact X111.returnOut hx Bd.returns (hb hby dj34_38) hr
  · show Q_asbi Z b zc hE n0 _ T111.heap _
    rw [e111]
    exact ⟨b103, rfl, N111, ((((Keep.refl hE [b]).ext E103).trans (Keep.of_wr W107) (allS (Or.inl (List.mem_of_getElem? (i := 0) rfl)) all0)).trans (Keep.of_wr W111) (allS (Or.inl (List.mem_of_getElem? (i := 0) rfl)) all0)), (Nat.le_of_eq q103.symm), s113⟩
theorem dj35_0 : decode jc35 0 = .ok (.aload_n 0, 1) := by decide +kernel
theorem dj35_1 : decode jc35 1 = .ok (.bipush 16, 2) := by decide +kernel
theorem dj35_3 : decode jc35 3 = .ok (.invokespecial 1, 3) := by decide +kernel
theorem dj35_6 : decode jc35 6 = .ok (.return_, 1) := by decide +kernel
theorem pd_5 : parseMethodDescriptor "(I)V" = some ⟨[.int], none⟩ := by decide +kernel
theorem pn_java_lang_StringBuilder : plainName "java/lang/StringBuilder" = true := by first | (simp [plainName, overriddenIn]; done) | decide +kernel
theorem ef_sbin (mi : MethodId) (b : Addr) : entryFrame mi #[(.ref b)] 1 = mkF mi 0 #[.val (.ref b)] [] := rfl
def Q_sbin (Z : State) (b : Addr) (zc : Int32) (hE : Heap) (n0 : Nat) (vv : Option Value) (hh : Heap) (LL : List Loc) : Prop := ∃ t : Addr, (vv = none) ∧ (Fr n0 LL) ∧ (Keep hE hh [b]) ∧ (hE.size ≤ t) ∧ (SBl Z hh b t 16 ([] : List Int32))
theorem rm_sbin (hw : HW a0 Z) (ws : List Cond) (b : Addr) (zc : Int32) (hE : Heap) (n0 : Nat) (O : Old Z n0 hE) (P0_ : Exa Z hE b c4_) (P1_ : Fld Z hE b c2_ "value" "[B" .null) (P2_ : Fld Z hE b c2_ "coder" "B" (.int 0)) (P3_ : Fld Z hE b c2_ "count" "I" (.int 0)) (D0_ : Sta Z Z.heap c1_ c5_ "Z" (.int zc)) (g_b : n0 ≤ b) (hzc : ¬ (zc = (0 : Int32))) :
    MF la Z hE mn8 jc35 1 none ws (rr 2 1 16 25) #[(.ref b)] (Q_sbin Z b zc hE n0) := by
  refine MetFree.of_bodySF (plainFor_of_name pn_java_lang_StringBuilder) hisR ?_
  intro pg ev sb mi gs below me cd s₁ Bd hml0 hPt hKt
  obtain ⟨rfl, hZ, hh⟩ := hPt
  have hx := Bd.exec
  have hby := Bd.bytes
  have hml : cd.maxLocals = 1 := hml0
  have hown : sb.vm.findClass c4_ = some mi.cls := findClass_of_methodNamed Bd.named
  have X0 : Stand pg la ev (rr 2 1 16 25) sb mi #[(.ref b)] below me cd s₁ [] 0 0 := Stand.of_body Bd
  have eE : s₁.heap = hE := by rw [← hh, Bd.state]; rfl
  have N0 := Fr.nil n0
  have pre0 : ∀ tt, SP pg ev below (s₁.setTop (mkF mi 0 #[.val (.ref b)] [])) tt → SP pg ev below (s₁.setTop (entryFrame mi #[(.ref b)] 1)) tt := fun tt kk => castTop (ef_sbin mi b) kk
  obtain ⟨v101, _, ⟨T101, L101, k101, n101⟩, -, X101, ⟨Lc101, hQ101, l101, y101, z101⟩, st101⟩ := X0.specialBack hx (y := mn7) rfl hown (mvT hZ (wd118 hw)) (mvT hZ (wd119 hw)) (mvT hZ (wd123 hw)) (by decide) (backOf (W := 0) (rm_asbi la Z a0 hw [] b zc hE n0 O P0_ P1_ P2_ P3_ D0_ g_b (hzc : ¬ (zc = (0 : Int32)))) hZ (wd123 hw) (wd122 hw) (by decide) (by decide)) (g := (mkF mi 3 #[.val (.ref b)] [(.int 16), (.ref b)])) rfl (by rw [hml]; rfl) (Steps.refl _) (a := b) (argsL := [(.int 16)]) (rest := []) (lenOf pd_5 rfl) rfl (Nat.le_of_ble_eq_true rfl) (hb hby dj35_3) (fun _ _ => ⟨rfl, eE, (by decide : 0 + 1 ≤ _), (by decide : 0 + 16 ≤ _)⟩)
  dsimp only [Pt.U, Pt.locs, Pt.cells, Pt.slots] at X101 l101 y101 z101 st101 hQ101
  subst l101 y101 z101
  obtain ⟨t_101, rfl, Nq101, Kq101, fr_t_101, r101_0⟩ := hQ101
  have N101 := Fr.app N0 Nq101
  obtain ⟨fs, hr, hrun, hended, hW, hsame⟩ := X101.leave (v := none) (fun _ => rfl)
  refine ⟨_, _, pre0 _ ?_, hrun, hended, _, _, rfl, ?_, ⟨_, rfl⟩, hW, hsame.mono (by decide) (by decide)⟩
  · show SP pg ev below (s₁.setTop (mkF mi 0 #[.val (.ref b)] [])) _
    refine XS.aloadN X0.here hx rfl (hb hby dj35_0) rfl rfl ?_
    refine XS.bipush X0.here hx rfl (hb hby dj35_1) ?_
    refine st101.trans ?_
    show SP pg ev below (T101.setTop (mkF mi 6 #[.val (.ref b)] [])) _
    exact X101.returnOut hx Bd.returns (hb hby dj35_6) hr
  · show Q_sbin Z b zc hE n0 _ T101.heap _
    exact ⟨t_101, rfl, N101, ((Keep.refl hE [b]).trans Kq101 (allS (Or.inl (List.mem_of_getElem? (i := 0) rfl)) all0)), fr_t_101, r101_0⟩
theorem dj15_0 : decode jc15 0 = .ok (.getstatic 18, 3) := by decide +kernel
theorem dj15_3 : decode jc15 3 = .ok (.ifCond .eq 18, 3) := by decide +kernel
theorem dj15_6 : decode jc15 6 = .ok (.aload_n 0, 1) := by decide +kernel
theorem dj15_7 : decode jc15 7 = .ok (.getfield 22, 3) := by decide +kernel
theorem dj15_10 : decode jc15 10 = .ok (.aload_n 1, 1) := by decide +kernel
theorem dj15_11 : decode jc15 11 = .ok (.invokevirtual 40, 3) := by decide +kernel
theorem dj15_14 : decode jc15 14 = .ok (.if_icmp .eq 7, 3) := by decide +kernel
theorem dj15_21 : decode jc15 21 = .ok (.return_, 1) := by decide +kernel
theorem ef_infl (mi : MethodId) (b : Addr) (y : Addr) : entryFrame mi #[(.ref b), (.ref y)] 2 = mkF mi 0 #[.val (.ref b), .val (.ref y)] [] := rfl
def Q_infl (Z : State) (b y u : Addr) (ds : List Int32) (zc : Int32) (hE : Heap) (n0 : Nat) (vv : Option Value) (hh : Heap) (LL : List Loc) : Prop := (vv = none) ∧ (Fr n0 LL) ∧ (hh = hE)
theorem rm_infl (hw : HW a0 Z) (ws : List Cond) (b y u : Addr) (ds : List Int32) (zc : Int32) (hE : Heap) (n0 : Nat) (O : Old Z n0 hE) (P0_ : Fld Z hE b c2_ "coder" "B" (.int 0)) (P1_ : LStr Z hE y u ds) (D0_ : Sta Z Z.heap c1_ c5_ "Z" (.int zc)) (hzc : ¬ (zc = (0 : Int32))) :
    MF la Z hE mn9 jc15 2 none ws (rr 1 0 0 13) #[(.ref b), (.ref y)] (Q_infl Z b y u ds zc hE n0) := by
  refine MetFree.of_bodySF (plainFor_of_name pn_java_lang_AbstractStringBuilder) hisR ?_
  intro pg ev sb mi gs below me cd s₁ Bd hml0 hPt hKt
  obtain ⟨rfl, hZ, hh⟩ := hPt
  have hx := Bd.exec
  have hby := Bd.bytes
  have hml : cd.maxLocals = 2 := hml0
  have hown : sb.vm.findClass c2_ = some mi.cls := findClass_of_methodNamed Bd.named
  have X0 : Stand pg la ev (rr 1 0 0 13) sb mi #[(.ref b), (.ref y)] below me cd s₁ [] 0 0 := Stand.of_body Bd
  have eE : s₁.heap = hE := by rw [← hh, Bd.state]; rfl
  have N0 := Fr.nil n0
  have pre0 : ∀ tt, SP pg ev below (s₁.setTop (mkF mi 0 #[.val (.ref b), .val (.ref y)] [])) tt → SP pg ev below (s₁.setTop (entryFrame mi #[(.ref b), (.ref y)] 2)) tt := fun tt kk => castTop (ef_infl mi b y) kk
  obtain ⟨sE101, sV101, sC101, ⟨kb101, sK101⟩, sb101, sl101⟩ := id P1_
  obtain ⟨T102, X102, e102, st102⟩ := getS2 X0 hx hZ hown (host := "") (Or.inl (wd125 hw)) Via.refl eE (D0_.ext O.2) (g := (mkF mi 0 #[.val (.ref b), .val (.ref y)] [])) rfl (hb hby dj15_0)
  obtain ⟨T103, X103, e103, st103⟩ := getF X102 hx hZ hown (host := "") (Or.inl (wd128 hw)) Via.refl e102 P0_ (g := (mkF mi 7 #[.val (.ref b), .val (.ref y)] [(.ref b)])) rfl rfl (hb hby dj15_7)
  obtain ⟨cq104, kq104, q104a, q104b, q104c⟩ := isOf hZ e103 sE101
  obtain ⟨v104, _, ⟨T104, L104, k104, n104⟩, -, X104, ⟨Lc104, hQ104, l104, y104, z104⟩, st104⟩ := X103.virtualBack hx (y := mn0) (z := mn0) hown (mvT hZ (wd163 hw)) (mvT hZ (wd81 hw)) (notFace_of_selects (args := #[]) (mvT hZ (wd83 hw))) (mvT hZ (wd83 hw)) (mvT hZ (wd82 hw)) (by decide) (backOf (W := 1) (rm_coder la Z a0 hw [] y zc hE n0 O sC101 D0_ (hzc : ¬ (zc = (0 : Int32)))) hZ (wd84 hw) (wd6 hw) (by decide) (by decide)) q104a q104c (g := (mkF mi 11 #[.val (.ref b), .val (.ref y)] [(.ref y), (.int 0)])) rfl (by rw [hml]; rfl) (Steps.refl _) (argsL := []) (rest := [(.int 0)]) (lenOf pd_0 rfl) rfl (Nat.le_of_ble_eq_true rfl) (hb hby dj15_11) (fun _ _ => ⟨rfl, e103, (by decide : 0 + 0 ≤ _), (by decide : 0 + 0 ≤ _)⟩)
  dsimp only [Pt.U, Pt.locs, Pt.cells, Pt.slots] at X104 l104 y104 z104 st104 hQ104
  subst l104 y104 z104
  obtain ⟨rfl, Nq104, ek104⟩ := hQ104
  have N104 := Fr.app N0 Nq104
  obtain ⟨fs, hr, hrun, hended, hW, hsame⟩ := X104.leave (v := none) (fun _ => rfl)
  refine ⟨_, _, pre0 _ ?_, hrun, hended, _, _, rfl, ?_, ⟨_, rfl⟩, hW, hsame.mono (by decide) (by decide)⟩
  · show SP pg ev below (s₁.setTop (mkF mi 0 #[.val (.ref b), .val (.ref y)] [])) _
    refine st102 _ ?_
    refine XS.ifNo X102.here hx rfl (hb hby dj15_3) rfl ((if0 _ _).trans (feq hzc).1) ?_
    refine XS.aloadN X102.here hx rfl (hb hby dj15_6) rfl rfl ?_
    refine st103 _ ?_
    refine XS.aloadN X103.here hx rfl (hb hby dj15_10) rfl rfl ?_
    refine st104.trans ?_
    refine XS.icmpYes X104.here hx rfl (pc0 := 14) (pc' := 21) rfl (hb hby dj15_14) rfl (teq (rfl : (0 : Int32) = (0 : Int32))).1 (by decide) (by decide) ?_
    show SP pg ev below (T104.setTop (mkF mi 21 #[.val (.ref b), .val (.ref y)] [])) _
    exact X104.returnOut hx Bd.returns (hb hby dj15_21) hr
  · show Q_infl Z b y u ds zc hE n0 _ T104.heap _
    rw [ek104]
    exact ⟨rfl, N104, rfl⟩
theorem dj3_0 : decode jc3 0 = .ok (.aload_n 0, 1) := by decide +kernel
theorem dj3_1 : decode jc3 1 = .ok (.invokevirtual 335, 3) := by decide +kernel
theorem dj3_4 : decode jc3 4 = .ok (.iload_n 3, 1) := by decide +kernel
theorem dj3_5 : decode jc3 5 = .ok (.if_icmp .ne 23, 3) := by decide +kernel
theorem dj3_8 : decode jc3 8 = .ok (.aload_n 0, 1) := by decide +kernel
theorem dj3_9 : decode jc3 9 = .ok (.getfield 9, 3) := by decide +kernel
theorem dj3_12 : decode jc3 12 = .ok (.iconst 0, 1) := by decide +kernel
theorem dj3_13 : decode jc3 13 = .ok (.aload_n 1, 1) := by decide +kernel
theorem dj3_14 : decode jc3 14 = .ok (.iload_n 2, 1) := by decide +kernel
theorem dj3_15 : decode jc3 15 = .ok (.iload_n 3, 1) := by decide +kernel
theorem dj3_16 : decode jc3 16 = .ok (.ishl, 1) := by decide +kernel
theorem dj3_17 : decode jc3 17 = .ok (.aload_n 0, 1) := by decide +kernel
theorem dj3_18 : decode jc3 18 = .ok (.getfield 9, 3) := by decide +kernel
theorem dj3_21 : decode jc3 21 = .ok (.arraylength, 1) := by decide +kernel
theorem dj3_22 : decode jc3 22 = .ok (.invokestatic 212, 3) := by decide +kernel
theorem dj3_25 : decode jc3 25 = .ok (.goto 18, 3) := by decide +kernel
theorem dj3_43 : decode jc3 43 = .ok (.return_, 1) := by decide +kernel
theorem ef_gby (mi : MethodId) (y : Addr) (t : Addr) (cs : List Int32) : entryFrame mi #[(.ref y), (.ref t), (.int (Int32.ofNat cs.length)), (.int 0)] 4 = mkF mi 0 #[.val (.ref y), .val (.ref t), .val (.int (Int32.ofNat cs.length)), .val (.int 0)] [] := rfl
def Q_gby (Z : State) (y t u : Addr) (kb : ClassId) (cap : Nat) (cs ds : List Int32) (zc : Int32) (hE : Heap) (n0 : Nat) (vv : Option Value) (hh : Heap) (LL : List Loc) : Prop := (vv = none) ∧ (Fr n0 LL) ∧ (Keep hE hh [t]) ∧ (Arv Z hh t kb .byte (Int32.ofNat cap) (pads cap (cs ++ ds)) (.int 0))
theorem rm_gby (hw : HW a0 Z) (ws : List Cond) (y t u : Addr) (kb : ClassId) (cap : Nat) (cs ds : List Int32) (zc : Int32) (hE : Heap) (n0 : Nat) (O : Old Z n0 hE) (P0_ : LStr Z hE y u ds) (P1_ : Arv Z hE t kb .byte (Int32.ofNat cap) (pads cap cs) (.int 0)) (D0_ : Sta Z Z.heap c1_ c5_ "Z" (.int zc)) (g_t : n0 ≤ t) (hfit : cs.length + ds.length ≤ cap) (hcap : cap ≤ 120) (hzc : ¬ (zc = (0 : Int32))) :
    MF la Z hE mn10 jc3 4 none ws (rr 1 0 0 18) #[(.ref y), (.ref t), (.int (Int32.ofNat cs.length)), (.int 0)] (Q_gby Z y t u kb cap cs ds zc hE n0) := by
  refine MetFree.of_bodySF (plainFor_of_name pn_java_lang_String) hisR ?_
  intro pg ev sb mi gs below me cd s₁ Bd hml0 hPt hKt
  obtain ⟨rfl, hZ, hh⟩ := hPt
  have hx := Bd.exec
  have hby := Bd.bytes
  have hml : cd.maxLocals = 4 := hml0
  have hown : sb.vm.findClass c1_ = some mi.cls := findClass_of_methodNamed Bd.named
  have X0 : Stand pg la ev (rr 1 0 0 18) sb mi #[(.ref y), (.ref t), (.int (Int32.ofNat cs.length)), (.int 0)] below me cd s₁ [] 0 0 := Stand.of_body Bd
  have eE : s₁.heap = hE := by rw [← hh, Bd.state]; rfl
  have N0 := Fr.nil n0
  have pre0 : ∀ tt, SP pg ev below (s₁.setTop (mkF mi 0 #[.val (.ref y), .val (.ref t), .val (.int (Int32.ofNat cs.length)), .val (.int 0)] [])) tt → SP pg ev below (s₁.setTop (entryFrame mi #[(.ref y), (.ref t), (.int (Int32.ofNat cs.length)), (.int 0)] 4)) tt := fun tt kk => castTop (ef_gby mi y t cs) kk
  obtain ⟨sE101, sV101, sC101, ⟨kb101, sK101⟩, sb101, sl101⟩ := id P0_
  obtain ⟨cq102, kq102, q102a, q102b, q102c⟩ := isOf hZ eE sE101
  obtain ⟨v102, _, ⟨T102, L102, k102, n102⟩, -, X102, ⟨Lc102, hQ102, l102, y102, z102⟩, st102⟩ := X0.virtualBack hx (y := mn0) (z := mn0) hown (mvT hZ (wd80 hw)) (mvT hZ (wd81 hw)) (notFace_of_selects (args := #[]) (mvT hZ (wd83 hw))) (mvT hZ (wd83 hw)) (mvT hZ (wd82 hw)) (by decide) (backOf (W := 0) (rm_coder la Z a0 hw [] y zc hE n0 O sC101 D0_ (hzc : ¬ (zc = (0 : Int32)))) hZ (wd84 hw) (wd6 hw) (by decide) (by decide)) q102a q102c (g := (mkF mi 1 #[.val (.ref y), .val (.ref t), .val (.int (Int32.ofNat cs.length)), .val (.int 0)] [(.ref y)])) rfl (by rw [hml]; rfl) (Steps.refl _) (argsL := []) (rest := []) (lenOf pd_0 rfl) rfl (Nat.le_of_ble_eq_true rfl) (hb hby dj3_1) (fun _ _ => ⟨rfl, eE, (by decide : 0 + 0 ≤ _), (by decide : 0 + 0 ≤ _)⟩)
  dsimp only [Pt.U, Pt.locs, Pt.cells, Pt.slots] at X102 l102 y102 z102 st102 hQ102
  subst l102 y102 z102
  obtain ⟨rfl, Nq102, ek102⟩ := hQ102
  have N102 := Fr.app N0 Nq102
  obtain ⟨T103, X103, e103, st103⟩ := getF X102 hx hZ hown (host := "") (Or.inl (wd26 hw)) Via.refl ek102 sV101 (g := (mkF mi 9 #[.val (.ref y), .val (.ref t), .val (.int (Int32.ofNat cs.length)), .val (.int 0)] [(.ref y)])) rfl rfl (hb hby dj3_9)
  have pre104 : ∀ tt, SP pg ev below (T103.setTop (mkF mi 17 #[.val (.ref y), .val (.ref t), .val (.int (Int32.ofNat cs.length)), .val (.int 0)] [(.int ((Int32.ofNat cs.length) <<< ((0 : Int32) &&& 31))), (.ref t), (.int 0), (.ref u)])) tt → SP pg ev below (s₁.setTop (entryFrame mi #[(.ref y), (.ref t), (.int (Int32.ofNat cs.length)), (.int 0)] 4)) tt := fun tt kk => pre0 _ (by
    show SP pg ev below (s₁.setTop (mkF mi 0 #[.val (.ref y), .val (.ref t), .val (.int (Int32.ofNat cs.length)), .val (.int 0)] [])) _
    refine XS.aloadN X0.here hx rfl (hb hby dj3_0) rfl rfl ?_
    refine st102.trans ?_
    refine XS.iloadN X102.here hx rfl (hb hby dj3_4) rfl ?_
    refine XS.icmpNo X102.here hx rfl (hb hby dj3_5) rfl (teq (rfl : (0 : Int32) = (0 : Int32))).2 ?_
    refine XS.aloadN X102.here hx rfl (hb hby dj3_8) rfl rfl ?_
    refine st103 _ ?_
    refine XS.iconst X103.here hx rfl (hb hby dj3_12) ?_
    refine XS.aloadN X103.here hx rfl (hb hby dj3_13) rfl rfl ?_
    refine XS.iloadN X103.here hx rfl (hb hby dj3_14) rfl ?_
    refine XS.iloadN X103.here hx rfl (hb hby dj3_15) rfl ?_
    refine XS.ishl X103.here hx rfl (hb hby dj3_16) rfl ?_
    exact kk)
  have pre105 : ∀ tt, SP pg ev below (T103.setTop (mkF mi 17 #[.val (.ref y), .val (.ref t), .val (.int (Int32.ofNat cs.length)), .val (.int 0)] [(.int (Int32.ofNat cs.length)), (.ref t), (.int 0), (.ref u)])) tt → SP pg ev below (s₁.setTop (entryFrame mi #[(.ref y), (.ref t), (.int (Int32.ofNat cs.length)), (.int 0)] 4)) tt := fun tt kk => pre104 tt (by rw [own_shl0]; exact kk)
  obtain ⟨T106, X106, e106, st106⟩ := getF X103 hx hZ hown (host := "") (Or.inl (wd26 hw)) Via.refl e103 sV101 (g := (mkF mi 18 #[.val (.ref y), .val (.ref t), .val (.int (Int32.ofNat cs.length)), .val (.int 0)] [(.ref y), (.int (Int32.ofNat cs.length)), (.ref t), (.int 0), (.ref u)])) rfl rfl (hb hby dj3_18)
  obtain ⟨cl107, Ar107, -, Sz107, Nn107, -, -⟩ := id sK101
  obtain ⟨T108, h108, L108, X108, e108, N108, Kq108, V108, st108⟩ := cpA X106 hx hZ hown (wd169 hw) (wd172 hw) (wd170 hw) (wd171 hw) e106 (us := (bys ds)) sK101 P1_ (Or.inl ⟨rfl, rfl⟩) (by decide) (own_len_nn (by omega)) (own_len_nn (by omega)) (by rw [own_n32 (n := ds.length) (by omega)]; exact Nat.le_of_eq (Nat.zero_add _)) (by rw [own_n32 (n := cs.length) (by omega), own_n32 (n := ds.length) (by omega), own_n32 (n := cap) (by omega)]; exact hfit) (own_us (by rw [own_n32 (by omega)]; simp [bys])) (by rw [own_n32 (n := cs.length) (by omega), own_n32 (n := ds.length) (by omega), own_pads_len (by omega)]; exact hfit) N102 g_t (g := (mkF mi 22 #[.val (.ref y), .val (.ref t), .val (.int (Int32.ofNat cs.length)), .val (.int 0)] [(.int (Int32.ofNat ds.length)), (.int (Int32.ofNat cs.length)), (.ref t), (.int 0), (.ref u)])) rfl (by rw [hml]; rfl) (rest := []) rfl (hb hby dj3_22) (by decide) (W := 0) (Nat.le_of_ble_eq_true rfl) (by decide)
  have ne_y_t : y ≠ t := Exa.neArv sE101 P1_ (wd14 hw)
  have f109 : Arv Z h108 t kb .byte (Int32.ofNat cap) (pads cap (cs ++ ds)) (.int 0) := by have hq := V108; rw [own_n32 (n := cs.length) (by omega), own_n32 (n := ds.length) (by omega), own_pads_put hfit] at hq; exact hq
  obtain ⟨fs, hr, hrun, hended, hW, hsame⟩ := X108.leave (v := none) (fun _ => rfl)
  refine ⟨_, _, pre105 _ ?_, hrun, hended, _, _, rfl, ?_, ⟨_, rfl⟩, hW, hsame.mono (by decide) (by decide)⟩
  · show SP pg ev below (T103.setTop (mkF mi 17 #[.val (.ref y), .val (.ref t), .val (.int (Int32.ofNat cs.length)), .val (.int 0)] [(.int (Int32.ofNat cs.length)), (.ref t), (.int 0), (.ref u)])) _
    refine XS.aloadN X103.here hx rfl (hb hby dj3_17) rfl rfl ?_
    refine st106 _ ?_
    refine X106.arraylength hx (cell := cl107) (by rw [e106]; exact Ar107.1) (State.isArrayOf_alike hZ.alike Ar107.2.1) (g := (mkF mi 21 #[.val (.ref y), .val (.ref t), .val (.int (Int32.ofNat cs.length)), .val (.int 0)] [(.ref u), (.int (Int32.ofNat cs.length)), (.ref t), (.int 0), (.ref u)])) rfl (rest := [(.int (Int32.ofNat cs.length)), (.ref t), (.int 0), (.ref u)]) rfl (hb hby dj3_21) _ ?_
    rw [len_of Sz107 Nn107]
    refine st108 _ ?_
    refine XS.goto X108.here hx rfl (pc0 := 25) (pc' := 43) rfl (hb hby dj3_25) (by decide) (by decide) ?_
    show SP pg ev below (T108.setTop (mkF mi 43 #[.val (.ref y), .val (.ref t), .val (.int (Int32.ofNat cs.length)), .val (.int 0)] [])) _
    exact X108.returnOut hx Bd.returns (hb hby dj3_43) hr
  · show Q_gby Z y t u kb cap cs ds zc hE n0 _ T108.heap _
    rw [e108]
    exact ⟨rfl, N108, ((Keep.refl hE [t]).trans Kq108 (allS (Or.inl (List.mem_of_getElem? (i := 0) rfl)) all0)), f109⟩
theorem dj16_0 : decode jc16 0 = .ok (.aload_n 0, 1) := by decide +kernel
theorem dj16_1 : decode jc16 1 = .ok (.aload_n 2, 1) := by decide +kernel
theorem dj16_2 : decode jc16 2 = .ok (.invokevirtual 397, 3) := by decide +kernel
theorem dj16_5 : decode jc16 5 = .ok (.aload_n 2, 1) := by decide +kernel
theorem dj16_6 : decode jc16 6 = .ok (.aload_n 0, 1) := by decide +kernel
theorem dj16_7 : decode jc16 7 = .ok (.getfield 15, 3) := by decide +kernel
theorem dj16_10 : decode jc16 10 = .ok (.iload_n 1, 1) := by decide +kernel
theorem dj16_11 : decode jc16 11 = .ok (.aload_n 0, 1) := by decide +kernel
theorem dj16_12 : decode jc16 12 = .ok (.getfield 22, 3) := by decide +kernel
theorem dj16_15 : decode jc16 15 = .ok (.invokevirtual 399, 3) := by decide +kernel
theorem dj16_18 : decode jc16 18 = .ok (.return_, 1) := by decide +kernel
theorem pd_6 : parseMethodDescriptor "(Ljava/lang/String;)V" = some ⟨[(.object "java/lang/String")], none⟩ := by decide +kernel
theorem pd_7 : parseMethodDescriptor "([BIB)V" = some ⟨[(.array .byte), .int, .byte], none⟩ := by decide +kernel
theorem ef_psa (mi : MethodId) (b : Addr) (y : Addr) (cs : List Int32) : entryFrame mi #[(.ref b), (.int (Int32.ofNat cs.length)), (.ref y)] 3 = mkF mi 0 #[.val (.ref b), .val (.int (Int32.ofNat cs.length)), .val (.ref y)] [] := rfl
def Q_psa (Z : State) (b y t u : Addr) (kb : ClassId) (cap : Nat) (cs ds : List Int32) (zc : Int32) (hE : Heap) (n0 : Nat) (vv : Option Value) (hh : Heap) (LL : List Loc) : Prop := (vv = none) ∧ (Fr n0 LL) ∧ (Keep hE hh [t]) ∧ (Arv Z hh t kb .byte (Int32.ofNat cap) (pads cap (cs ++ ds)) (.int 0))
theorem rm_psa (hw : HW a0 Z) (ws : List Cond) (b y t u : Addr) (kb : ClassId) (cap : Nat) (cs ds : List Int32) (zc : Int32) (hE : Heap) (n0 : Nat) (O : Old Z n0 hE) (P0_ : Exa Z hE b c4_) (P1_ : Fld Z hE b c2_ "value" "[B" (.ref t)) (P2_ : Fld Z hE b c2_ "coder" "B" (.int 0)) (P3_ : LStr Z hE y u ds) (P4_ : Arv Z hE t kb .byte (Int32.ofNat cap) (pads cap cs) (.int 0)) (D0_ : Sta Z Z.heap c1_ c5_ "Z" (.int zc)) (g_t : n0 ≤ t) (ne_b_t : b ≠ t) (hfit : cs.length + ds.length ≤ cap) (hcap : cap ≤ 120) (hzc : ¬ (zc = (0 : Int32))) :
    MF la Z hE mn11 jc16 3 none ws (rr 2 0 0 33) #[(.ref b), (.int (Int32.ofNat cs.length)), (.ref y)] (Q_psa Z b y t u kb cap cs ds zc hE n0) := by
  refine MetFree.of_bodySF (plainFor_of_name pn_java_lang_AbstractStringBuilder) hisR ?_
  intro pg ev sb mi gs below me cd s₁ Bd hml0 hPt hKt
  obtain ⟨rfl, hZ, hh⟩ := hPt
  have hx := Bd.exec
  have hby := Bd.bytes
  have hml : cd.maxLocals = 3 := hml0
  have hown : sb.vm.findClass c2_ = some mi.cls := findClass_of_methodNamed Bd.named
  have X0 : Stand pg la ev (rr 2 0 0 33) sb mi #[(.ref b), (.int (Int32.ofNat cs.length)), (.ref y)] below me cd s₁ [] 0 0 := Stand.of_body Bd
  have eE : s₁.heap = hE := by rw [← hh, Bd.state]; rfl
  have N0 := Fr.nil n0
  have pre0 : ∀ tt, SP pg ev below (s₁.setTop (mkF mi 0 #[.val (.ref b), .val (.int (Int32.ofNat cs.length)), .val (.ref y)] [])) tt → SP pg ev below (s₁.setTop (entryFrame mi #[(.ref b), (.int (Int32.ofNat cs.length)), (.ref y)] 3)) tt := fun tt kk => castTop (ef_psa mi b y cs) kk
  obtain ⟨cq101, qq101, qq101'⟩ := P0_.cell
  obtain ⟨v101, _, ⟨T101, L101, k101, n101⟩, -, X101, ⟨Lc101, hQ101, l101, y101, z101⟩, st101⟩ := X0.privateBack hx (y := mn9) hown (mvT hZ (wd158 hw)) (mvT hZ (wd159 hw)) (own_selP (mvT (args := #[]) hZ (wd151 hw)) rfl (Cond.privateMethod_at (mvP hZ (wd160 hw) (args := #[]))) (mvT hZ (wd159 hw)) (by decide)) (Cond.privateMethod_at (mvP hZ (wd160 hw) (args := #[]))) (mvT hZ (wd162 hw)) (by decide) (backOf (W := 0) (rm_infl la Z a0 hw [] b y u ds zc hE n0 O P2_ P3_ D0_ (hzc : ¬ (zc = (0 : Int32)))) hZ (wd162 hw) (wd122 hw) (by decide) (by decide)) (g := (mkF mi 2 #[.val (.ref b), .val (.int (Int32.ofNat cs.length)), .val (.ref y)] [(.ref y), (.ref b)])) rfl (by rw [hml]; rfl) (Steps.refl _) (a := b) (by rw [eE]; exact qq101) qq101' (argsL := [(.ref y)]) (rest := []) (lenOf pd_6 rfl) rfl (Nat.le_of_ble_eq_true rfl) (hb hby dj16_2) (fun _ _ => ⟨rfl, eE, (by decide : 0 + 0 ≤ _), (by decide : 0 + 0 ≤ _)⟩)
  dsimp only [Pt.U, Pt.locs, Pt.cells, Pt.slots] at X101 l101 y101 z101 st101 hQ101
  subst l101 y101 z101
  obtain ⟨rfl, Nq101, ek101⟩ := hQ101
  have N101 := Fr.app N0 Nq101
  obtain ⟨T102, X102, e102, st102⟩ := getF X101 hx hZ hown (host := "") (Or.inl (wd126 hw)) Via.refl ek101 P1_ (g := (mkF mi 7 #[.val (.ref b), .val (.int (Int32.ofNat cs.length)), .val (.ref y)] [(.ref b), (.ref y)])) rfl rfl (hb hby dj16_7)
  obtain ⟨T103, X103, e103, st103⟩ := getF X102 hx hZ hown (host := "") (Or.inl (wd128 hw)) Via.refl e102 P2_ (g := (mkF mi 12 #[.val (.ref b), .val (.int (Int32.ofNat cs.length)), .val (.ref y)] [(.ref b), (.int (Int32.ofNat cs.length)), (.ref t), (.ref y)])) rfl rfl (hb hby dj16_12)
  obtain ⟨cq104, kq104, q104a, q104b, q104c⟩ := isOf hZ e103 (P3_).1
  obtain ⟨v104, _, ⟨T104, L104, k104, n104⟩, -, X104, ⟨Lc104, hQ104, l104, y104, z104⟩, st104⟩ := X103.virtualBack hx (y := mn10) (z := mn10) hown (mvT hZ (wd164 hw)) (mvT hZ (wd165 hw)) (notFace_of_selects (args := #[]) (mvT hZ (wd167 hw))) (mvT hZ (wd167 hw)) (mvT hZ (wd166 hw)) (by decide) (backOf (W := 0) (rm_gby la Z a0 hw [] y t u kb cap cs ds zc hE n0 O P3_ P4_ D0_ g_t (hfit : cs.length + ds.length ≤ cap) (hcap : cap ≤ 120) (hzc : ¬ (zc = (0 : Int32)))) hZ (wd168 hw) (wd6 hw) (by decide) (by decide)) q104a q104c (g := (mkF mi 15 #[.val (.ref b), .val (.int (Int32.ofNat cs.length)), .val (.ref y)] [(.int 0), (.int (Int32.ofNat cs.length)), (.ref t), (.ref y)])) rfl (by rw [hml]; rfl) (Steps.refl _) (argsL := [(.ref t), (.int (Int32.ofNat cs.length)), (.int 0)]) (rest := []) (lenOf pd_7 rfl) rfl (Nat.le_of_ble_eq_true rfl) (hb hby dj16_15) (fun _ _ => ⟨rfl, e103, (by decide : 0 + 0 ≤ _), (by decide : 0 + 0 ≤ _)⟩)
  dsimp only [Pt.U, Pt.locs, Pt.cells, Pt.slots] at X104 l104 y104 z104 st104 hQ104
  subst l104 y104 z104
  obtain ⟨rfl, Nq104, Kq104, r104_0⟩ := hQ104
  have N104 := Fr.app N101 Nq104
  obtain ⟨fs, hr, hrun, hended, hW, hsame⟩ := X104.leave (v := none) (fun _ => rfl)
  refine ⟨_, _, pre0 _ ?_, hrun, hended, _, _, rfl, ?_, ⟨_, rfl⟩, hW, hsame.mono (by decide) (by decide)⟩
  · show SP pg ev below (s₁.setTop (mkF mi 0 #[.val (.ref b), .val (.int (Int32.ofNat cs.length)), .val (.ref y)] [])) _
    refine XS.aloadN X0.here hx rfl (hb hby dj16_0) rfl rfl ?_
    refine XS.aloadN X0.here hx rfl (hb hby dj16_1) rfl rfl ?_
    refine st101.trans ?_
    refine XS.aloadN X101.here hx rfl (hb hby dj16_5) rfl rfl ?_
    refine XS.aloadN X101.here hx rfl (hb hby dj16_6) rfl rfl ?_
    refine st102 _ ?_
    refine XS.iloadN X102.here hx rfl (hb hby dj16_10) rfl ?_
    refine XS.aloadN X102.here hx rfl (hb hby dj16_11) rfl rfl ?_
    refine st103 _ ?_
    refine st104.trans ?_
    show SP pg ev below (T104.setTop (mkF mi 18 #[.val (.ref b), .val (.int (Int32.ofNat cs.length)), .val (.ref y)] [])) _
    exact X104.returnOut hx Bd.returns (hb hby dj16_18) hr
  · show Q_psa Z b y t u kb cap cs ds zc hE n0 _ T104.heap _
    exact ⟨rfl, N104, ((Keep.refl hE [t]).trans Kq104 (allS (Or.inl (List.mem_of_getElem? (i := 0) rfl)) all0)), r104_0⟩
theorem dj36_0 : decode jc36 0 = .ok (.aload_n 0, 1) := by decide +kernel
theorem dj36_1 : decode jc36 1 = .ok (.getfield 15, 3) := by decide +kernel
theorem dj36_4 : decode jc36 4 = .ok (.arraylength, 1) := by decide +kernel
theorem dj36_5 : decode jc36 5 = .ok (.aload_n 0, 1) := by decide +kernel
theorem dj36_6 : decode jc36 6 = .ok (.getfield 22, 3) := by decide +kernel
theorem dj36_9 : decode jc36 9 = .ok (.ishr, 1) := by decide +kernel
theorem dj36_10 : decode jc36 10 = .ok (.istore_n 2, 1) := by decide +kernel
theorem dj36_11 : decode jc36 11 = .ok (.iload_n 1, 1) := by decide +kernel
theorem dj36_12 : decode jc36 12 = .ok (.iload_n 2, 1) := by decide +kernel
theorem dj36_13 : decode jc36 13 = .ok (.isub, 1) := by decide +kernel
theorem dj36_14 : decode jc36 14 = .ok (.ifCond .le 24, 3) := by decide +kernel
theorem dj36_38 : decode jc36 38 = .ok (.return_, 1) := by decide +kernel
theorem ef_eci (mi : MethodId) (b : Addr) (n : Nat) : entryFrame mi #[(.ref b), (.int (Int32.ofNat n))] 3 = mkF mi 0 #[.val (.ref b), .val (.int (Int32.ofNat n)), .unset] [] := rfl
def Q_eci (Z : State) (b : Addr) (n : Nat) (t : Addr) (kb : ClassId) (cap : Nat) (cs : List Int32) (hE : Heap) (n0 : Nat) (vv : Option Value) (hh : Heap) (LL : List Loc) : Prop := (vv = none) ∧ (Fr n0 LL) ∧ (hh = hE)
theorem rm_eci (hw : HW a0 Z) (ws : List Cond) (b : Addr) (n : Nat) (t : Addr) (kb : ClassId) (cap : Nat) (cs : List Int32) (hE : Heap) (n0 : Nat) (O : Old Z n0 hE) (P0_ : Exa Z hE b c4_) (P1_ : Fld Z hE b c2_ "value" "[B" (.ref t)) (P2_ : Fld Z hE b c2_ "coder" "B" (.int 0)) (P3_ : Arv Z hE t kb .byte (Int32.ofNat cap) (pads cap cs) (.int 0)) (hle : n ≤ cap) (hcap : cap ≤ 120) :
    MF la Z hE mn12 jc36 3 none ws (rr 0 0 0 0) #[(.ref b), (.int (Int32.ofNat n))] (Q_eci Z b n t kb cap cs hE n0) := by
  refine MetFree.of_bodySF (plainFor_of_name pn_java_lang_AbstractStringBuilder) hisR ?_
  intro pg ev sb mi gs below me cd s₁ Bd hml0 hPt hKt
  obtain ⟨rfl, hZ, hh⟩ := hPt
  have hx := Bd.exec
  have hby := Bd.bytes
  have hml : cd.maxLocals = 3 := hml0
  have hown : sb.vm.findClass c2_ = some mi.cls := findClass_of_methodNamed Bd.named
  have X0 : Stand pg la ev (rr 0 0 0 0) sb mi #[(.ref b), (.int (Int32.ofNat n))] below me cd s₁ [] 0 0 := Stand.of_body Bd
  have eE : s₁.heap = hE := by rw [← hh, Bd.state]; rfl
  have N0 := Fr.nil n0
  have pre0 : ∀ tt, SP pg ev below (s₁.setTop (mkF mi 0 #[.val (.ref b), .val (.int (Int32.ofNat n)), .unset] [])) tt → SP pg ev below (s₁.setTop (entryFrame mi #[(.ref b), (.int (Int32.ofNat n))] 3)) tt := fun tt kk => castTop (ef_eci mi b n) kk
  obtain ⟨T101, X101, e101, st101⟩ := getF X0 hx hZ hown (host := "") (Or.inl (wd126 hw)) Via.refl eE P1_ (g := (mkF mi 1 #[.val (.ref b), .val (.int (Int32.ofNat n)), .unset] [(.ref b)])) rfl rfl (hb hby dj36_1)
  obtain ⟨cl102, Ar102, -, Sz102, Nn102, -, -⟩ := id P3_
  obtain ⟨T103, X103, e103, st103⟩ := getF X101 hx hZ hown (host := "") (Or.inl (wd128 hw)) Via.refl e101 P2_ (g := (mkF mi 6 #[.val (.ref b), .val (.int (Int32.ofNat n)), .unset] [(.ref b), (.int (Int32.ofNat cap))])) rfl rfl (hb hby dj36_6)
  have pre104 : ∀ tt, SP pg ev below (T103.setTop (mkF mi 10 #[.val (.ref b), .val (.int (Int32.ofNat n)), .unset] [(.int ((Int32.ofNat cap) >>> ((0 : Int32) &&& 31)))])) tt → SP pg ev below (s₁.setTop (entryFrame mi #[(.ref b), (.int (Int32.ofNat n))] 3)) tt := fun tt kk => pre0 _ (by
    show SP pg ev below (s₁.setTop (mkF mi 0 #[.val (.ref b), .val (.int (Int32.ofNat n)), .unset] [])) _
    refine XS.aloadN X0.here hx rfl (hb hby dj36_0) rfl rfl ?_
    refine st101 _ ?_
    refine X101.arraylength hx (cell := cl102) (by rw [e101]; exact Ar102.1) (State.isArrayOf_alike hZ.alike Ar102.2.1) (g := (mkF mi 4 #[.val (.ref b), .val (.int (Int32.ofNat n)), .unset] [(.ref t)])) rfl (rest := []) rfl (hb hby dj36_4) _ ?_
    rw [len_of Sz102 Nn102]
    refine XS.aloadN X101.here hx rfl (hb hby dj36_5) rfl rfl ?_
    refine st103 _ ?_
    refine XS.ishr X103.here hx rfl (hb hby dj36_9) rfl ?_
    exact kk)
  have pre105 : ∀ tt, SP pg ev below (T103.setTop (mkF mi 10 #[.val (.ref b), .val (.int (Int32.ofNat n)), .unset] [(.int (Int32.ofNat cap))])) tt → SP pg ev below (s₁.setTop (entryFrame mi #[(.ref b), (.int (Int32.ofNat n))] 3)) tt := fun tt kk => pre104 tt (by rw [own_sh0]; exact kk)
  obtain ⟨fs, hr, hrun, hended, hW, hsame⟩ := X103.leave (v := none) (fun _ => rfl)
  refine ⟨_, _, pre105 _ ?_, hrun, hended, _, _, rfl, ?_, ⟨_, rfl⟩, hW, hsame.mono (by decide) (by decide)⟩
  · show SP pg ev below (T103.setTop (mkF mi 10 #[.val (.ref b), .val (.int (Int32.ofNat n)), .unset] [(.int (Int32.ofNat cap))])) _
    refine XS.istoreN X103.here hx rfl (hb hby dj36_10) rfl (l' := #[.val (.ref b), .val (.int (Int32.ofNat n)), .val (.int (Int32.ofNat cap))]) rfl ?_
    refine XS.iloadN X103.here hx rfl (hb hby dj36_11) rfl ?_
    refine XS.iloadN X103.here hx rfl (hb hby dj36_12) rfl ?_
    refine XS.isub X103.here hx rfl (hb hby dj36_13) rfl ?_
    refine XS.ifYes X103.here hx rfl (pc0 := 14) (pc' := 38) rfl (hb hby dj36_14) rfl ((if0 _ _).trans (flt (fun q => absurd ((own_gap (by omega) (by omega)).mp q) (by omega))).2.2.2) (by decide) (by decide) ?_
    show SP pg ev below (T103.setTop (mkF mi 38 #[.val (.ref b), .val (.int (Int32.ofNat n)), .val (.int (Int32.ofNat cap))] [])) _
    exact X103.returnOut hx Bd.returns (hb hby dj36_38) hr
  · show Q_eci Z b n t kb cap cs hE n0 _ T103.heap _
    rw [e103]
    exact ⟨rfl, N0, rfl⟩
theorem dj17_0 : decode jc17 0 = .ok (.iload_n 0, 1) := by decide +kernel
theorem dj17_1 : decode jc17 1 = .ok (.iload_n 1, 1) := by decide +kernel
theorem dj17_2 : decode jc17 2 = .ok (.if_icmp .lt 7, 3) := by decide +kernel
theorem dj17_5 : decode jc17 5 = .ok (.iload_n 0, 1) := by decide +kernel
theorem dj17_6 : decode jc17 6 = .ok (.goto 4, 3) := by decide +kernel
theorem dj17_9 : decode jc17 9 = .ok (.iload_n 1, 1) := by decide +kernel
theorem dj17_10 : decode jc17 10 = .ok (.ireturn, 1) := by decide +kernel
theorem ef_mmax (mi : MethodId) (p : Int32) (q : Int32) : entryFrame mi #[(.int p), (.int q)] 2 = mkF mi 0 #[.val (.int p), .val (.int q)] [] := rfl
def Q_mmax (Z : State) (p q : Int32) (hE : Heap) (n0 : Nat) (vv : Option Value) (hh : Heap) (LL : List Loc) : Prop := (vv = some (.int (if p < q then q else p))) ∧ (Fr n0 LL) ∧ (hh = hE)
theorem rm_mmax (hw : HW a0 Z) (ws : List Cond) (p q : Int32) (hE : Heap) (n0 : Nat) (O : Old Z n0 hE) :
    MF la Z hE mn13 jc17 2 (some .int) ws (rr 0 0 0 0) #[(.int p), (.int q)] (Q_mmax Z p q hE n0) := by
  refine MetFree.of_bodySF (Jvm.Free.JP.mathPlain rfl (by decide +kernel)) hisR ?_
  intro pg ev sb mi gs below me cd s₁ Bd hml0 hPt hKt
  obtain ⟨rfl, hZ, hh⟩ := hPt
  have hx := Bd.exec
  have hby := Bd.bytes
  have hml : cd.maxLocals = 2 := hml0
  have hown : sb.vm.findClass c25_ = some mi.cls := findClass_of_methodNamed Bd.named
  have X0 : Stand pg la ev (rr 0 0 0 0) sb mi #[(.int p), (.int q)] below me cd s₁ [] 0 0 := Stand.of_body Bd
  have eE : s₁.heap = hE := by rw [← hh, Bd.state]; rfl
  have N0 := Fr.nil n0
  have pre0 : ∀ tt, SP pg ev below (s₁.setTop (mkF mi 0 #[.val (.int p), .val (.int q)] [])) tt → SP pg ev below (s₁.setTop (entryFrame mi #[(.int p), (.int q)] 2)) tt := fun tt kk => castTop (ef_mmax mi p q) kk
  have pre102 : ∀ tt, SP pg ev below (s₁.setTop (mkF mi 2 #[.val (.int p), .val (.int q)] [(.int q), (.int p)])) tt → SP pg ev below (s₁.setTop (entryFrame mi #[(.int p), (.int q)] 2)) tt := fun tt kk => pre0 _ (by
    show SP pg ev below (s₁.setTop (mkF mi 0 #[.val (.int p), .val (.int q)] [])) _
    refine XS.iloadN X0.here hx rfl (hb hby dj17_0) rfl ?_
    refine XS.iloadN X0.here hx rfl (hb hby dj17_1) rfl ?_
    exact kk)
  by_cases hc101 : p < q
  · obtain ⟨fs, hr, hrun, hended, hW, hsame⟩ := X0.leave (v := some (.int q)) (fun hq => by rw [Bd.returns] at hq; cases hq)
    refine ⟨_, _, pre102 _ ?_, hrun, hended, _, _, rfl, ?_, ⟨_, rfl⟩, hW, hsame.mono (by decide) (by decide)⟩
    · show SP pg ev below (s₁.setTop (mkF mi 2 #[.val (.int p), .val (.int q)] [(.int q), (.int p)])) _
      refine XS.icmpYes X0.here hx rfl (pc0 := 2) (pc' := 9) rfl (hb hby dj17_2) rfl (tlt hc101).1 (by decide) (by decide) ?_
      refine XS.iloadN X0.here hx rfl (hb hby dj17_9) rfl ?_
      show SP pg ev below (s₁.setTop (mkF mi 10 #[.val (.int p), .val (.int q)] [(.int q)])) _
      exact retI X0 hx Bd.returns (hb hby dj17_10) hr
    · show Q_mmax Z p q hE n0 _ s₁.heap _
      rw [eE]
      exact ⟨(by show some (Value.int q) = some (Value.int (if p < q then q else p)); rw [if_pos hc101]), N0, rfl⟩
  · obtain ⟨fs, hr, hrun, hended, hW, hsame⟩ := X0.leave (v := some (.int p)) (fun hq => by rw [Bd.returns] at hq; cases hq)
    refine ⟨_, _, pre102 _ ?_, hrun, hended, _, _, rfl, ?_, ⟨_, rfl⟩, hW, hsame.mono (by decide) (by decide)⟩
    · show SP pg ev below (s₁.setTop (mkF mi 2 #[.val (.int p), .val (.int q)] [(.int q), (.int p)])) _
      refine XS.icmpNo X0.here hx rfl (hb hby dj17_2) rfl (flt hc101).1 ?_
      refine XS.iloadN X0.here hx rfl (hb hby dj17_5) rfl ?_
      refine XS.goto X0.here hx rfl (pc0 := 6) (pc' := 10) rfl (hb hby dj17_6) (by decide) (by decide) ?_
      show SP pg ev below (s₁.setTop (mkF mi 10 #[.val (.int p), .val (.int q)] [(.int p)])) _
      exact retI X0 hx Bd.returns (hb hby dj17_10) hr
    · show Q_mmax Z p q hE n0 _ s₁.heap _
      rw [eE]
      exact ⟨(by show some (Value.int p) = some (Value.int (if p < q then q else p)); rw [if_neg hc101]), N0, rfl⟩
theorem dj18_0 : decode jc18 0 = .ok (.iload_n 0, 1) := by decide +kernel
theorem dj18_1 : decode jc18 1 = .ok (.iload_n 1, 1) := by decide +kernel
theorem dj18_2 : decode jc18 2 = .ok (.iload_n 2, 1) := by decide +kernel
theorem dj18_3 : decode jc18 3 = .ok (.invokestatic 194, 3) := by decide +kernel
theorem dj18_6 : decode jc18 6 = .ok (.iadd, 1) := by decide +kernel
theorem dj18_7 : decode jc18 7 = .ok (.istore_n 3, 1) := by decide +kernel
theorem dj18_8 : decode jc18 8 = .ok (.iconst 0, 1) := by decide +kernel
theorem dj18_9 : decode jc18 9 = .ok (.iload_n 3, 1) := by decide +kernel
theorem dj18_10 : decode jc18 10 = .ok (.if_icmp .ge 11, 3) := by decide +kernel
theorem dj18_13 : decode jc18 13 = .ok (.iload_n 3, 1) := by decide +kernel
theorem dj18_14 : decode jc18 14 = .ok (.ldc 200, 2) := by decide +kernel
theorem dj18_16 : decode jc18 16 = .ok (.if_icmp .gt 5, 3) := by decide +kernel
theorem dj18_19 : decode jc18 19 = .ok (.iload_n 3, 1) := by decide +kernel
theorem dj18_20 : decode jc18 20 = .ok (.ireturn, 1) := by decide +kernel
theorem pd_8 : parseMethodDescriptor "(II)I" = some ⟨[.int, .int], some .int⟩ := by decide +kernel
theorem pn_jdk_internal_util_ArraysSupport : plainName "jdk/internal/util/ArraysSupport" = true := by first | (simp [plainName, overriddenIn]; done) | decide +kernel
theorem ef_nlen (mi : MethodId) (cap : Nat) (n : Nat) : entryFrame mi #[(.int (Int32.ofNat cap)), (.int ((Int32.ofNat n) - (Int32.ofNat cap))), (.int ((Int32.ofNat cap) + (2 : Int32)))] 4 = mkF mi 0 #[.val (.int (Int32.ofNat cap)), .val (.int ((Int32.ofNat n) - (Int32.ofNat cap))), .val (.int ((Int32.ofNat cap) + (2 : Int32))), .unset] [] := rfl
def Q_nlen (Z : State) (cap n : Nat) (hE : Heap) (n0 : Nat) (vv : Option Value) (hh : Heap) (LL : List Loc) : Prop := (vv = some (.int (Int32.ofNat (ncap cap n)))) ∧ (Fr n0 LL) ∧ (hh = hE)
theorem rm_nlen (hw : HW a0 Z) (ws : List Cond) (cap n : Nat) (hE : Heap) (n0 : Nat) (O : Old Z n0 hE) (hgt : cap < n) (hn : n ≤ 120) (hc5 : cap ≤ 50) :
    MF la Z hE mn14 jc18 4 (some .int) ws (rr 1 0 0 14) #[(.int (Int32.ofNat cap)), (.int ((Int32.ofNat n) - (Int32.ofNat cap))), (.int ((Int32.ofNat cap) + (2 : Int32)))] (Q_nlen Z cap n hE n0) := by
  refine MetFree.of_bodySF (plainFor_of_name pn_jdk_internal_util_ArraysSupport) hisR ?_
  intro pg ev sb mi gs below me cd s₁ Bd hml0 hPt hKt
  obtain ⟨rfl, hZ, hh⟩ := hPt
  have hx := Bd.exec
  have hby := Bd.bytes
  have hml : cd.maxLocals = 4 := hml0
  have hown : sb.vm.findClass c14_ = some mi.cls := findClass_of_methodNamed Bd.named
  have X0 : Stand pg la ev (rr 1 0 0 14) sb mi #[(.int (Int32.ofNat cap)), (.int ((Int32.ofNat n) - (Int32.ofNat cap))), (.int ((Int32.ofNat cap) + (2 : Int32)))] below me cd s₁ [] 0 0 := Stand.of_body Bd
  have eE : s₁.heap = hE := by rw [← hh, Bd.state]; rfl
  have N0 := Fr.nil n0
  have pre0 : ∀ tt, SP pg ev below (s₁.setTop (mkF mi 0 #[.val (.int (Int32.ofNat cap)), .val (.int ((Int32.ofNat n) - (Int32.ofNat cap))), .val (.int ((Int32.ofNat cap) + (2 : Int32))), .unset] [])) tt → SP pg ev below (s₁.setTop (entryFrame mi #[(.int (Int32.ofNat cap)), (.int ((Int32.ofNat n) - (Int32.ofNat cap))), (.int ((Int32.ofNat cap) + (2 : Int32)))] 4)) tt := fun tt kk => castTop (ef_nlen mi cap n) kk
  obtain ⟨v101, _, ⟨T101, L101, k101, n101⟩, -, X101, ⟨Lc101, hQ101, l101, y101, z101⟩, st101⟩ := Jvm.LawKit.callS X0 hx (y := mn13) hown (mvT hZ (wd279 hw)) (mvT hZ (wd280 hw)) (mvT hZ (wd220 hw)) (mvT hZ (wd281 hw)) (by decide) (backOf (W := 1) (rm_mmax la Z a0 hw [] ((Int32.ofNat n) - (Int32.ofNat cap)) ((Int32.ofNat cap) + (2 : Int32)) hE n0 O) hZ (wd281 hw) (wd220 hw) (by decide) (by decide)) (g := (mkF mi 3 #[.val (.int (Int32.ofNat cap)), .val (.int ((Int32.ofNat n) - (Int32.ofNat cap))), .val (.int ((Int32.ofNat cap) + (2 : Int32))), .unset] [(.int ((Int32.ofNat cap) + (2 : Int32))), (.int ((Int32.ofNat n) - (Int32.ofNat cap))), (.int (Int32.ofNat cap))])) rfl (by rw [hml]; rfl) (argsL := [(.int ((Int32.ofNat n) - (Int32.ofNat cap))), (.int ((Int32.ofNat cap) + (2 : Int32)))]) (rest := [(.int (Int32.ofNat cap))]) (lenOf pd_8 rfl) rfl (Nat.le_of_ble_eq_true rfl) (hb hby dj18_3) (fun _ _ => ⟨rfl, eE, (by decide : 0 + 0 ≤ _), (by decide : 0 + 0 ≤ _)⟩)
  dsimp only [Pt.U, Pt.locs, Pt.cells, Pt.slots] at X101 l101 y101 z101 st101 hQ101
  subst l101 y101 z101
  obtain ⟨rfl, Nq101, ek101⟩ := hQ101
  have N101 := Fr.app N0 Nq101
  have pre102 : ∀ tt, SP pg ev below (T101.setTop (mkF mi 7 #[.val (.int (Int32.ofNat cap)), .val (.int ((Int32.ofNat n) - (Int32.ofNat cap))), .val (.int ((Int32.ofNat cap) + (2 : Int32))), .unset] [(.int ((Int32.ofNat cap) + (if ((Int32.ofNat n) - (Int32.ofNat cap)) < ((Int32.ofNat cap) + (2 : Int32)) then ((Int32.ofNat cap) + (2 : Int32)) else ((Int32.ofNat n) - (Int32.ofNat cap)))))])) tt → SP pg ev below (s₁.setTop (entryFrame mi #[(.int (Int32.ofNat cap)), (.int ((Int32.ofNat n) - (Int32.ofNat cap))), (.int ((Int32.ofNat cap) + (2 : Int32)))] 4)) tt := fun tt kk => pre0 _ (by
    show SP pg ev below (s₁.setTop (mkF mi 0 #[.val (.int (Int32.ofNat cap)), .val (.int ((Int32.ofNat n) - (Int32.ofNat cap))), .val (.int ((Int32.ofNat cap) + (2 : Int32))), .unset] [])) _
    refine XS.iloadN X0.here hx rfl (hb hby dj18_0) rfl ?_
    refine XS.iloadN X0.here hx rfl (hb hby dj18_1) rfl ?_
    refine XS.iloadN X0.here hx rfl (hb hby dj18_2) rfl ?_
    refine st101 _ ?_
    refine XS.iadd X101.here hx rfl (hb hby dj18_6) rfl ?_
    exact kk)
  have pre103 : ∀ tt, SP pg ev below (T101.setTop (mkF mi 7 #[.val (.int (Int32.ofNat cap)), .val (.int ((Int32.ofNat n) - (Int32.ofNat cap))), .val (.int ((Int32.ofNat cap) + (2 : Int32))), .unset] [(.int (Int32.ofNat (ncap cap n)))])) tt → SP pg ev below (s₁.setTop (entryFrame mi #[(.int (Int32.ofNat cap)), (.int ((Int32.ofNat n) - (Int32.ofNat cap))), (.int ((Int32.ofNat cap) + (2 : Int32)))] 4)) tt := fun tt kk => pre102 tt (by rw [own_newlen hgt hn hc5]; exact kk)
  obtain ⟨fs, hr, hrun, hended, hW, hsame⟩ := X101.leave (v := some (.int (Int32.ofNat (ncap cap n)))) (fun hq => by rw [Bd.returns] at hq; cases hq)
  refine ⟨_, _, pre103 _ ?_, hrun, hended, _, _, rfl, ?_, ⟨_, rfl⟩, hW, hsame.mono (by decide) (by decide)⟩
  · show SP pg ev below (T101.setTop (mkF mi 7 #[.val (.int (Int32.ofNat cap)), .val (.int ((Int32.ofNat n) - (Int32.ofNat cap))), .val (.int ((Int32.ofNat cap) + (2 : Int32))), .unset] [(.int (Int32.ofNat (ncap cap n)))])) _
    refine XS.istoreN X101.here hx rfl (hb hby dj18_7) rfl (l' := #[.val (.int (Int32.ofNat cap)), .val (.int ((Int32.ofNat n) - (Int32.ofNat cap))), .val (.int ((Int32.ofNat cap) + (2 : Int32))), .val (.int (Int32.ofNat (ncap cap n)))]) rfl ?_
    refine XS.iconst X101.here hx rfl (hb hby dj18_8) ?_
    refine XS.iloadN X101.here hx rfl (hb hby dj18_9) rfl ?_
    refine XS.icmpNo X101.here hx rfl (hb hby dj18_10) rfl (tlt ((own_lt32 (a := 0) (by omega) (by have := own_ncap hgt hn hc5; omega)).mpr (by have := own_ncap hgt hn hc5; omega))).2.1 ?_
    refine XS.iloadN X101.here hx rfl (hb hby dj18_13) rfl ?_
    refine X101.ldcInt hx hown (mvT hZ (wd282 hw)) (g := (mkF mi 14 #[.val (.int (Int32.ofNat cap)), .val (.int ((Int32.ofNat n) - (Int32.ofNat cap))), .val (.int ((Int32.ofNat cap) + (2 : Int32))), .val (.int (Int32.ofNat (ncap cap n)))] [(.int (Int32.ofNat (ncap cap n)))])) rfl (hb hby dj18_14) _ ?_
    refine XS.icmpNo X101.here hx rfl (hb hby dj18_16) rfl (flt (own_big (by have := own_ncap hgt hn hc5; omega))).2.2.1 ?_
    refine XS.iloadN X101.here hx rfl (hb hby dj18_19) rfl ?_
    show SP pg ev below (T101.setTop (mkF mi 20 #[.val (.int (Int32.ofNat cap)), .val (.int ((Int32.ofNat n) - (Int32.ofNat cap))), .val (.int ((Int32.ofNat cap) + (2 : Int32))), .val (.int (Int32.ofNat (ncap cap n)))] [(.int (Int32.ofNat (ncap cap n)))])) _
    exact retI X101 hx Bd.returns (hb hby dj18_20) hr
  · show Q_nlen Z cap n hE n0 _ T101.heap _
    rw [ek101]
    exact ⟨rfl, N101, rfl⟩
theorem dj19_0 : decode jc19 0 = .ok (.aload_n 0, 1) := by decide +kernel
theorem dj19_1 : decode jc19 1 = .ok (.getfield 15, 3) := by decide +kernel
theorem dj19_4 : decode jc19 4 = .ok (.arraylength, 1) := by decide +kernel
theorem dj19_5 : decode jc19 5 = .ok (.istore_n 2, 1) := by decide +kernel
theorem dj19_6 : decode jc19 6 = .ok (.iload_n 1, 1) := by decide +kernel
theorem dj19_7 : decode jc19 7 = .ok (.aload_n 0, 1) := by decide +kernel
theorem dj19_8 : decode jc19 8 = .ok (.getfield 22, 3) := by decide +kernel
theorem dj19_11 : decode jc19 11 = .ok (.ishl, 1) := by decide +kernel
theorem dj19_12 : decode jc19 12 = .ok (.istore_n 3, 1) := by decide +kernel
theorem dj19_13 : decode jc19 13 = .ok (.iload_n 3, 1) := by decide +kernel
theorem dj19_14 : decode jc19 14 = .ok (.iload_n 2, 1) := by decide +kernel
theorem dj19_15 : decode jc19 15 = .ok (.isub, 1) := by decide +kernel
theorem dj19_16 : decode jc19 16 = .ok (.istore 4, 2) := by decide +kernel
theorem dj19_18 : decode jc19 18 = .ok (.iload_n 2, 1) := by decide +kernel
theorem dj19_19 : decode jc19 19 = .ok (.iload 4, 2) := by decide +kernel
theorem dj19_21 : decode jc19 21 = .ok (.iload_n 2, 1) := by decide +kernel
theorem dj19_22 : decode jc19 22 = .ok (.iconst 2, 1) := by decide +kernel
theorem dj19_23 : decode jc19 23 = .ok (.aload_n 0, 1) := by decide +kernel
theorem dj19_24 : decode jc19 24 = .ok (.getfield 22, 3) := by decide +kernel
theorem dj19_27 : decode jc19 27 = .ok (.ishl, 1) := by decide +kernel
theorem dj19_28 : decode jc19 28 = .ok (.iadd, 1) := by decide +kernel
theorem dj19_29 : decode jc19 29 = .ok (.invokestatic 114, 3) := by decide +kernel
theorem dj19_32 : decode jc19 32 = .ok (.istore 5, 2) := by decide +kernel
theorem dj19_34 : decode jc19 34 = .ok (.iload 5, 2) := by decide +kernel
theorem dj19_36 : decode jc19 36 = .ok (.ldc 39, 2) := by decide +kernel
theorem dj19_38 : decode jc19 38 = .ok (.if_icmp .ne 13, 3) := by decide +kernel
theorem dj19_51 : decode jc19 51 = .ok (.iload 5, 2) := by decide +kernel
theorem dj19_53 : decode jc19 53 = .ok (.aload_n 0, 1) := by decide +kernel
theorem dj19_54 : decode jc19 54 = .ok (.getfield 22, 3) := by decide +kernel
theorem dj19_57 : decode jc19 57 = .ok (.ishr, 1) := by decide +kernel
theorem dj19_58 : decode jc19 58 = .ok (.ireturn, 1) := by decide +kernel
theorem pd_9 : parseMethodDescriptor "(III)I" = some ⟨[.int, .int, .int], some .int⟩ := by decide +kernel
theorem ef_ncp (mi : MethodId) (b : Addr) (n : Nat) : entryFrame mi #[(.ref b), (.int (Int32.ofNat n))] 6 = mkF mi 0 #[.val (.ref b), .val (.int (Int32.ofNat n)), .unset, .unset, .unset, .unset] [] := rfl
def Q_ncp (Z : State) (b : Addr) (n : Nat) (t : Addr) (kb : ClassId) (cap : Nat) (cs : List Int32) (hE : Heap) (n0 : Nat) (vv : Option Value) (hh : Heap) (LL : List Loc) : Prop := (vv = some (.int (Int32.ofNat (ncap cap n)))) ∧ (Fr n0 LL) ∧ (hh = hE)
theorem rm_ncp (hw : HW a0 Z) (ws : List Cond) (b : Addr) (n : Nat) (t : Addr) (kb : ClassId) (cap : Nat) (cs : List Int32) (hE : Heap) (n0 : Nat) (O : Old Z n0 hE) (P0_ : Fld Z hE b c2_ "value" "[B" (.ref t)) (P1_ : Fld Z hE b c2_ "coder" "B" (.int 0)) (P2_ : Arv Z hE t kb .byte (Int32.ofNat cap) (pads cap cs) (.int 0)) (hgt : cap < n) (hn : n ≤ 120) (hc5 : cap ≤ 50) :
    MF la Z hE mn15 jc19 6 (some .int) ws (rr 2 0 0 29) #[(.ref b), (.int (Int32.ofNat n))] (Q_ncp Z b n t kb cap cs hE n0) := by
  refine MetFree.of_bodySF (plainFor_of_name pn_java_lang_AbstractStringBuilder) hisR ?_
  intro pg ev sb mi gs below me cd s₁ Bd hml0 hPt hKt
  obtain ⟨rfl, hZ, hh⟩ := hPt
  have hx := Bd.exec
  have hby := Bd.bytes
  have hml : cd.maxLocals = 6 := hml0
  have hown : sb.vm.findClass c2_ = some mi.cls := findClass_of_methodNamed Bd.named
  have X0 : Stand pg la ev (rr 2 0 0 29) sb mi #[(.ref b), (.int (Int32.ofNat n))] below me cd s₁ [] 0 0 := Stand.of_body Bd
  have eE : s₁.heap = hE := by rw [← hh, Bd.state]; rfl
  have N0 := Fr.nil n0
  have pre0 : ∀ tt, SP pg ev below (s₁.setTop (mkF mi 0 #[.val (.ref b), .val (.int (Int32.ofNat n)), .unset, .unset, .unset, .unset] [])) tt → SP pg ev below (s₁.setTop (entryFrame mi #[(.ref b), (.int (Int32.ofNat n))] 6)) tt := fun tt kk => castTop (ef_ncp mi b n) kk
  obtain ⟨T101, X101, e101, st101⟩ := getF X0 hx hZ hown (host := "") (Or.inl (wd126 hw)) Via.refl eE P0_ (g := (mkF mi 1 #[.val (.ref b), .val (.int (Int32.ofNat n)), .unset, .unset, .unset, .unset] [(.ref b)])) rfl rfl (hb hby dj19_1)
  obtain ⟨cl102, Ar102, -, Sz102, Nn102, -, -⟩ := id P2_
  obtain ⟨T103, X103, e103, st103⟩ := getF X101 hx hZ hown (host := "") (Or.inl (wd128 hw)) Via.refl e101 P1_ (g := (mkF mi 8 #[.val (.ref b), .val (.int (Int32.ofNat n)), .val (.int (Int32.ofNat cap)), .unset, .unset, .unset] [(.ref b), (.int (Int32.ofNat n))])) rfl rfl (hb hby dj19_8)
  have pre104 : ∀ tt, SP pg ev below (T103.setTop (mkF mi 12 #[.val (.ref b), .val (.int (Int32.ofNat n)), .val (.int (Int32.ofNat cap)), .unset, .unset, .unset] [(.int ((Int32.ofNat n) <<< ((0 : Int32) &&& 31)))])) tt → SP pg ev below (s₁.setTop (entryFrame mi #[(.ref b), (.int (Int32.ofNat n))] 6)) tt := fun tt kk => pre0 _ (by
    show SP pg ev below (s₁.setTop (mkF mi 0 #[.val (.ref b), .val (.int (Int32.ofNat n)), .unset, .unset, .unset, .unset] [])) _
    refine XS.aloadN X0.here hx rfl (hb hby dj19_0) rfl rfl ?_
    refine st101 _ ?_
    refine X101.arraylength hx (cell := cl102) (by rw [e101]; exact Ar102.1) (State.isArrayOf_alike hZ.alike Ar102.2.1) (g := (mkF mi 4 #[.val (.ref b), .val (.int (Int32.ofNat n)), .unset, .unset, .unset, .unset] [(.ref t)])) rfl (rest := []) rfl (hb hby dj19_4) _ ?_
    rw [len_of Sz102 Nn102]
    refine XS.istoreN X101.here hx rfl (hb hby dj19_5) rfl (l' := #[.val (.ref b), .val (.int (Int32.ofNat n)), .val (.int (Int32.ofNat cap)), .unset, .unset, .unset]) rfl ?_
    refine XS.iloadN X101.here hx rfl (hb hby dj19_6) rfl ?_
    refine XS.aloadN X101.here hx rfl (hb hby dj19_7) rfl rfl ?_
    refine st103 _ ?_
    refine XS.ishl X103.here hx rfl (hb hby dj19_11) rfl ?_
    exact kk)
  have pre105 : ∀ tt, SP pg ev below (T103.setTop (mkF mi 12 #[.val (.ref b), .val (.int (Int32.ofNat n)), .val (.int (Int32.ofNat cap)), .unset, .unset, .unset] [(.int (Int32.ofNat n))])) tt → SP pg ev below (s₁.setTop (entryFrame mi #[(.ref b), (.int (Int32.ofNat n))] 6)) tt := fun tt kk => pre104 tt (by rw [own_shl0]; exact kk)
  obtain ⟨T106, X106, e106, st106⟩ := getF X103 hx hZ hown (host := "") (Or.inl (wd128 hw)) Via.refl e103 P1_ (g := (mkF mi 24 #[.val (.ref b), .val (.int (Int32.ofNat n)), .val (.int (Int32.ofNat cap)), .val (.int (Int32.ofNat n)), .val (.int ((Int32.ofNat n) - (Int32.ofNat cap))), .unset] [(.ref b), (.int 2), (.int (Int32.ofNat cap)), (.int ((Int32.ofNat n) - (Int32.ofNat cap))), (.int (Int32.ofNat cap))])) rfl rfl (hb hby dj19_24)
  have pre107 : ∀ tt, SP pg ev below (T106.setTop (mkF mi 28 #[.val (.ref b), .val (.int (Int32.ofNat n)), .val (.int (Int32.ofNat cap)), .val (.int (Int32.ofNat n)), .val (.int ((Int32.ofNat n) - (Int32.ofNat cap))), .unset] [(.int ((2 : Int32) <<< ((0 : Int32) &&& 31))), (.int (Int32.ofNat cap)), (.int ((Int32.ofNat n) - (Int32.ofNat cap))), (.int (Int32.ofNat cap))])) tt → SP pg ev below (s₁.setTop (entryFrame mi #[(.ref b), (.int (Int32.ofNat n))] 6)) tt := fun tt kk => pre105 _ (by
    show SP pg ev below (T103.setTop (mkF mi 12 #[.val (.ref b), .val (.int (Int32.ofNat n)), .val (.int (Int32.ofNat cap)), .unset, .unset, .unset] [(.int (Int32.ofNat n))])) _
    refine XS.istoreN X103.here hx rfl (hb hby dj19_12) rfl (l' := #[.val (.ref b), .val (.int (Int32.ofNat n)), .val (.int (Int32.ofNat cap)), .val (.int (Int32.ofNat n)), .unset, .unset]) rfl ?_
    refine XS.iloadN X103.here hx rfl (hb hby dj19_13) rfl ?_
    refine XS.iloadN X103.here hx rfl (hb hby dj19_14) rfl ?_
    refine XS.isub X103.here hx rfl (hb hby dj19_15) rfl ?_
    refine XS.istore X103.here hx rfl (hb hby dj19_16) rfl (l' := #[.val (.ref b), .val (.int (Int32.ofNat n)), .val (.int (Int32.ofNat cap)), .val (.int (Int32.ofNat n)), .val (.int ((Int32.ofNat n) - (Int32.ofNat cap))), .unset]) rfl ?_
    refine XS.iloadN X103.here hx rfl (hb hby dj19_18) rfl ?_
    refine XS.iload X103.here hx rfl (hb hby dj19_19) rfl ?_
    refine XS.iloadN X103.here hx rfl (hb hby dj19_21) rfl ?_
    refine XS.iconst X103.here hx rfl (hb hby dj19_22) ?_
    refine XS.aloadN X103.here hx rfl (hb hby dj19_23) rfl rfl ?_
    refine st106 _ ?_
    refine XS.ishl X106.here hx rfl (hb hby dj19_27) rfl ?_
    exact kk)
  have pre108 : ∀ tt, SP pg ev below (T106.setTop (mkF mi 28 #[.val (.ref b), .val (.int (Int32.ofNat n)), .val (.int (Int32.ofNat cap)), .val (.int (Int32.ofNat n)), .val (.int ((Int32.ofNat n) - (Int32.ofNat cap))), .unset] [(.int 2), (.int (Int32.ofNat cap)), (.int ((Int32.ofNat n) - (Int32.ofNat cap))), (.int (Int32.ofNat cap))])) tt → SP pg ev below (s₁.setTop (entryFrame mi #[(.ref b), (.int (Int32.ofNat n))] 6)) tt := fun tt kk => pre107 tt (by rw [own_shl0]; exact kk)
  obtain ⟨v109, _, ⟨T109, L109, k109, n109⟩, -, X109, ⟨Lc109, hQ109, l109, y109, z109⟩, st109⟩ := Jvm.LawKit.callS X106 hx (y := mn14) hown (mvT hZ (wd275 hw)) (mvT hZ (wd276 hw)) (mvT hZ (wd277 hw)) (mvT hZ (wd278 hw)) (by decide) (backOf (W := 0) (rm_nlen la Z a0 hw [] cap n hE n0 O (hgt : cap < n) (hn : n ≤ 120) (hc5 : cap ≤ 50)) hZ (wd278 hw) (wd277 hw) (by decide) (by decide)) (g := (mkF mi 29 #[.val (.ref b), .val (.int (Int32.ofNat n)), .val (.int (Int32.ofNat cap)), .val (.int (Int32.ofNat n)), .val (.int ((Int32.ofNat n) - (Int32.ofNat cap))), .unset] [(.int ((Int32.ofNat cap) + (2 : Int32))), (.int ((Int32.ofNat n) - (Int32.ofNat cap))), (.int (Int32.ofNat cap))])) rfl (by rw [hml]; rfl) (argsL := [(.int (Int32.ofNat cap)), (.int ((Int32.ofNat n) - (Int32.ofNat cap))), (.int ((Int32.ofNat cap) + (2 : Int32)))]) (rest := []) (lenOf pd_9 rfl) rfl (Nat.le_of_ble_eq_true rfl) (hb hby dj19_29) (fun _ _ => ⟨rfl, e106, (by decide : 0 + 0 ≤ _), (by decide : 0 + 0 ≤ _)⟩)
  dsimp only [Pt.U, Pt.locs, Pt.cells, Pt.slots] at X109 l109 y109 z109 st109 hQ109
  subst l109 y109 z109
  obtain ⟨rfl, Nq109, ek109⟩ := hQ109
  have N109 := Fr.app N0 Nq109
  obtain ⟨T110, X110, e110, st110⟩ := getF X109 hx hZ hown (host := "") (Or.inl (wd128 hw)) Via.refl ek109 P1_ (g := (mkF mi 54 #[.val (.ref b), .val (.int (Int32.ofNat n)), .val (.int (Int32.ofNat cap)), .val (.int (Int32.ofNat n)), .val (.int ((Int32.ofNat n) - (Int32.ofNat cap))), .val (.int (Int32.ofNat (ncap cap n)))] [(.ref b), (.int (Int32.ofNat (ncap cap n)))])) rfl rfl (hb hby dj19_54)
  obtain ⟨fs, hr, hrun, hended, hW, hsame⟩ := X110.leave (v := some (.int ((Int32.ofNat (ncap cap n)) >>> ((0 : Int32) &&& 31)))) (fun hq => by rw [Bd.returns] at hq; cases hq)
  refine ⟨_, _, pre108 _ ?_, hrun, hended, _, _, rfl, ?_, ⟨_, rfl⟩, hW, hsame.mono (by decide) (by decide)⟩
  · show SP pg ev below (T106.setTop (mkF mi 28 #[.val (.ref b), .val (.int (Int32.ofNat n)), .val (.int (Int32.ofNat cap)), .val (.int (Int32.ofNat n)), .val (.int ((Int32.ofNat n) - (Int32.ofNat cap))), .unset] [(.int 2), (.int (Int32.ofNat cap)), (.int ((Int32.ofNat n) - (Int32.ofNat cap))), (.int (Int32.ofNat cap))])) _
    refine XS.iadd X106.here hx rfl (hb hby dj19_28) rfl ?_
    refine st109 _ ?_
    refine XS.istore X109.here hx rfl (hb hby dj19_32) rfl (l' := #[.val (.ref b), .val (.int (Int32.ofNat n)), .val (.int (Int32.ofNat cap)), .val (.int (Int32.ofNat n)), .val (.int ((Int32.ofNat n) - (Int32.ofNat cap))), .val (.int (Int32.ofNat (ncap cap n)))]) rfl ?_
    refine XS.iload X109.here hx rfl (hb hby dj19_34) rfl ?_
    refine X109.ldcInt hx hown (mvT hZ (wd283 hw)) (g := (mkF mi 36 #[.val (.ref b), .val (.int (Int32.ofNat n)), .val (.int (Int32.ofNat cap)), .val (.int (Int32.ofNat n)), .val (.int ((Int32.ofNat n) - (Int32.ofNat cap))), .val (.int (Int32.ofNat (ncap cap n)))] [(.int (Int32.ofNat (ncap cap n)))])) rfl (hb hby dj19_36) _ ?_
    refine XS.icmpYes X109.here hx rfl (pc0 := 38) (pc' := 51) rfl (hb hby dj19_38) rfl (feq (own_max (by have := own_ncap hgt hn hc5; omega))).2 (by decide) (by decide) ?_
    refine XS.iload X109.here hx rfl (hb hby dj19_51) rfl ?_
    refine XS.aloadN X109.here hx rfl (hb hby dj19_53) rfl rfl ?_
    refine st110 _ ?_
    refine XS.ishr X110.here hx rfl (hb hby dj19_57) rfl ?_
    show SP pg ev below (T110.setTop (mkF mi 58 #[.val (.ref b), .val (.int (Int32.ofNat n)), .val (.int (Int32.ofNat cap)), .val (.int (Int32.ofNat n)), .val (.int ((Int32.ofNat n) - (Int32.ofNat cap))), .val (.int (Int32.ofNat (ncap cap n)))] [(.int ((Int32.ofNat (ncap cap n)) >>> ((0 : Int32) &&& 31)))])) _
    exact retI X110 hx Bd.returns (hb hby dj19_58) hr
  · show Q_ncp Z b n t kb cap cs hE n0 _ T110.heap _
    rw [e110]
    exact ⟨(congrArg (fun z => some (Value.int z)) (own_sh0 _)), N109, rfl⟩
theorem dj20_0 : decode jc20 0 = .ok (.iload_n 0, 1) := by decide +kernel
theorem dj20_1 : decode jc20 1 = .ok (.iload_n 1, 1) := by decide +kernel
theorem dj20_2 : decode jc20 2 = .ok (.if_icmp .gt 7, 3) := by decide +kernel
theorem dj20_5 : decode jc20 5 = .ok (.iload_n 0, 1) := by decide +kernel
theorem dj20_6 : decode jc20 6 = .ok (.goto 4, 3) := by decide +kernel
theorem dj20_9 : decode jc20 9 = .ok (.iload_n 1, 1) := by decide +kernel
theorem dj20_10 : decode jc20 10 = .ok (.ireturn, 1) := by decide +kernel
theorem ef_mmin (mi : MethodId) (p : Int32) (q : Int32) : entryFrame mi #[(.int p), (.int q)] 2 = mkF mi 0 #[.val (.int p), .val (.int q)] [] := rfl
def Q_mmin (Z : State) (p q : Int32) (hE : Heap) (n0 : Nat) (vv : Option Value) (hh : Heap) (LL : List Loc) : Prop := (vv = some (.int (if q < p then q else p))) ∧ (Fr n0 LL) ∧ (hh = hE)
theorem rm_mmin (hw : HW a0 Z) (ws : List Cond) (p q : Int32) (hE : Heap) (n0 : Nat) (O : Old Z n0 hE) :
    MF la Z hE mn16 jc20 2 (some .int) ws (rr 0 0 0 0) #[(.int p), (.int q)] (Q_mmin Z p q hE n0) := by
  refine MetFree.of_bodySF (Jvm.Free.JP.mathPlain rfl (by decide +kernel)) hisR ?_
  intro pg ev sb mi gs below me cd s₁ Bd hml0 hPt hKt
  obtain ⟨rfl, hZ, hh⟩ := hPt
  have hx := Bd.exec
  have hby := Bd.bytes
  have hml : cd.maxLocals = 2 := hml0
  have hown : sb.vm.findClass c25_ = some mi.cls := findClass_of_methodNamed Bd.named
  have X0 : Stand pg la ev (rr 0 0 0 0) sb mi #[(.int p), (.int q)] below me cd s₁ [] 0 0 := Stand.of_body Bd
  have eE : s₁.heap = hE := by rw [← hh, Bd.state]; rfl
  have N0 := Fr.nil n0
  have pre0 : ∀ tt, SP pg ev below (s₁.setTop (mkF mi 0 #[.val (.int p), .val (.int q)] [])) tt → SP pg ev below (s₁.setTop (entryFrame mi #[(.int p), (.int q)] 2)) tt := fun tt kk => castTop (ef_mmin mi p q) kk
  have pre102 : ∀ tt, SP pg ev below (s₁.setTop (mkF mi 2 #[.val (.int p), .val (.int q)] [(.int q), (.int p)])) tt → SP pg ev below (s₁.setTop (entryFrame mi #[(.int p), (.int q)] 2)) tt := fun tt kk => pre0 _ (by
    show SP pg ev below (s₁.setTop (mkF mi 0 #[.val (.int p), .val (.int q)] [])) _
    refine XS.iloadN X0.here hx rfl (hb hby dj20_0) rfl ?_
    refine XS.iloadN X0.here hx rfl (hb hby dj20_1) rfl ?_
    exact kk)
  by_cases hc101 : q < p
  · obtain ⟨fs, hr, hrun, hended, hW, hsame⟩ := X0.leave (v := some (.int q)) (fun hq => by rw [Bd.returns] at hq; cases hq)
    refine ⟨_, _, pre102 _ ?_, hrun, hended, _, _, rfl, ?_, ⟨_, rfl⟩, hW, hsame.mono (by decide) (by decide)⟩
    · show SP pg ev below (s₁.setTop (mkF mi 2 #[.val (.int p), .val (.int q)] [(.int q), (.int p)])) _
      refine XS.icmpYes X0.here hx rfl (pc0 := 2) (pc' := 9) rfl (hb hby dj20_2) rfl (tlt hc101).2.2.1 (by decide) (by decide) ?_
      refine XS.iloadN X0.here hx rfl (hb hby dj20_9) rfl ?_
      show SP pg ev below (s₁.setTop (mkF mi 10 #[.val (.int p), .val (.int q)] [(.int q)])) _
      exact retI X0 hx Bd.returns (hb hby dj20_10) hr
    · show Q_mmin Z p q hE n0 _ s₁.heap _
      rw [eE]
      exact ⟨(by show some (Value.int q) = some (Value.int (if q < p then q else p)); rw [if_pos hc101]), N0, rfl⟩
  · obtain ⟨fs, hr, hrun, hended, hW, hsame⟩ := X0.leave (v := some (.int p)) (fun hq => by rw [Bd.returns] at hq; cases hq)
    refine ⟨_, _, pre102 _ ?_, hrun, hended, _, _, rfl, ?_, ⟨_, rfl⟩, hW, hsame.mono (by decide) (by decide)⟩
    · show SP pg ev below (s₁.setTop (mkF mi 2 #[.val (.int p), .val (.int q)] [(.int q), (.int p)])) _
      refine XS.icmpNo X0.here hx rfl (hb hby dj20_2) rfl (flt hc101).2.2.1 ?_
      refine XS.iloadN X0.here hx rfl (hb hby dj20_5) rfl ?_
      refine XS.goto X0.here hx rfl (pc0 := 6) (pc' := 10) rfl (hb hby dj20_6) (by decide) (by decide) ?_
      show SP pg ev below (s₁.setTop (mkF mi 10 #[.val (.int p), .val (.int q)] [(.int p)])) _
      exact retI X0 hx Bd.returns (hb hby dj20_10) hr
    · show Q_mmin Z p q hE n0 _ s₁.heap _
      rw [eE]
      exact ⟨(by show some (Value.int p) = some (Value.int (if q < p then q else p)); rw [if_neg hc101]), N0, rfl⟩
theorem dj4_0 : decode jc4 0 = .ok (.iload_n 1, 1) := by decide +kernel
theorem dj4_1 : decode jc4 1 = .ok (.aload_n 0, 1) := by decide +kernel
theorem dj4_2 : decode jc4 2 = .ok (.arraylength, 1) := by decide +kernel
theorem dj4_3 : decode jc4 3 = .ok (.if_icmp .ne 11, 3) := by decide +kernel
theorem dj4_14 : decode jc4 14 = .ok (.iload_n 1, 1) := by decide +kernel
theorem dj4_15 : decode jc4 15 = .ok (.newarray .byte, 2) := by decide +kernel
theorem dj4_17 : decode jc4 17 = .ok (.astore_n 2, 1) := by decide +kernel
theorem dj4_18 : decode jc4 18 = .ok (.aload_n 0, 1) := by decide +kernel
theorem dj4_19 : decode jc4 19 = .ok (.iconst 0, 1) := by decide +kernel
theorem dj4_20 : decode jc4 20 = .ok (.aload_n 2, 1) := by decide +kernel
theorem dj4_21 : decode jc4 21 = .ok (.iconst 0, 1) := by decide +kernel
theorem dj4_22 : decode jc4 22 = .ok (.aload_n 0, 1) := by decide +kernel
theorem dj4_23 : decode jc4 23 = .ok (.arraylength, 1) := by decide +kernel
theorem dj4_24 : decode jc4 24 = .ok (.iload_n 1, 1) := by decide +kernel
theorem dj4_25 : decode jc4 25 = .ok (.invokestatic 304, 3) := by decide +kernel
theorem dj4_28 : decode jc4 28 = .ok (.invokestatic 150, 3) := by decide +kernel
theorem dj4_31 : decode jc4 31 = .ok (.aload_n 2, 1) := by decide +kernel
theorem dj4_32 : decode jc4 32 = .ok (.areturn, 1) := by decide +kernel
theorem pn_java_util_Arrays : plainName "java/util/Arrays" = true := by first | (simp [plainName, overriddenIn]; done) | decide +kernel
theorem ef_cpo (mi : MethodId) (t : Addr) (c2 : Nat) : entryFrame mi #[(.ref t), (.int (Int32.ofNat c2))] 3 = mkF mi 0 #[.val (.ref t), .val (.int (Int32.ofNat c2)), .unset] [] := rfl
def Q_cpo (Z : State) (t : Addr) (kb : ClassId) (cap : Nat) (cs : List Int32) (c2 : Nat) (hE : Heap) (n0 : Nat) (vv : Option Value) (hh : Heap) (LL : List Loc) : Prop := ∃ r : Addr, ∃ kr : ClassId, (vv = some (.ref r)) ∧ (Fr n0 LL) ∧ (Keep hE hh []) ∧ (hE.size ≤ r) ∧ (Arv Z hh r kr .byte (Int32.ofNat c2) (pads c2 cs) (.int 0)) ∧ (Exa Z hh r "[B")
theorem rm_cpo (hw : HW a0 Z) (ws : List Cond) (t : Addr) (kb : ClassId) (cap : Nat) (cs : List Int32) (c2 : Nat) (hE : Heap) (n0 : Nat) (O : Old Z n0 hE) (P0_ : Arv Z hE t kb .byte (Int32.ofNat cap) (pads cap cs) (.int 0)) (hlc : cs.length ≤ cap) (hg : cap < c2) (hc2 : c2 ≤ 120) :
    MF la Z hE mn17 jc4 3 (some (.array .byte)) ws (rr 1 1 120 18) #[(.ref t), (.int (Int32.ofNat c2))] (Q_cpo Z t kb cap cs c2 hE n0) := by
  refine MetFree.of_bodySF (plainFor_of_name pn_java_util_Arrays) hisR ?_
  intro pg ev sb mi gs below me cd s₁ Bd hml0 hPt hKt
  obtain ⟨rfl, hZ, hh⟩ := hPt
  have hx := Bd.exec
  have hby := Bd.bytes
  have hml : cd.maxLocals = 3 := hml0
  have hown : sb.vm.findClass c11_ = some mi.cls := findClass_of_methodNamed Bd.named
  have X0 : Stand pg la ev (rr 1 1 120 18) sb mi #[(.ref t), (.int (Int32.ofNat c2))] below me cd s₁ [] 0 0 := Stand.of_body Bd
  have eE : s₁.heap = hE := by rw [← hh, Bd.state]; rfl
  have N0 := Fr.nil n0
  have pre0 : ∀ tt, SP pg ev below (s₁.setTop (mkF mi 0 #[.val (.ref t), .val (.int (Int32.ofNat c2)), .unset] [])) tt → SP pg ev below (s₁.setTop (entryFrame mi #[(.ref t), (.int (Int32.ofNat c2))] 3)) tt := fun tt kk => castTop (ef_cpo mi t c2) kk
  obtain ⟨cl101, Ar101, -, Sz101, Nn101, -, -⟩ := id P0_
  obtain ⟨T102, h102, k102, X102, e102, E102, A102, B102, st102⟩ := newPE (aty := .byte) X0 hx hZ (wd18 hw) eE (g := (mkF mi 15 #[.val (.ref t), .val (.int (Int32.ofNat c2)), .unset] [(.int (Int32.ofNat c2))])) rfl (hb hby dj4_15) rfl (own_len_nn (by omega)) (cap := 120) (by rw [own_n32 (by omega)]; exact hc2) (by decide) (by decide) (by decide) (ad := "[B") (by decide)
  obtain ⟨b102, q102⟩ : ∃ z, z = hE.size := ⟨_, rfl⟩
  rw [← q102] at A102 B102 st102
  have f103 : Arv Z h102 b102 k102 .byte (Int32.ofNat c2) ([] ++ List.replicate (c2) (.int 0)) (.int 0) := (Arv.new A102 (own_len_nn (by omega))).pad (pad_rep [] (.int 0) (c2))
  have f104 : Arv Z h102 t kb .byte (Int32.ofNat cap) (pads cap cs) (.int 0) := (P0_.ext E102)
  obtain ⟨cl105, Ar105, -, Sz105, Nn105, -, -⟩ := id f104
  have O106 : Old Z n0 h102 := (O.ext E102)
  obtain ⟨v107, _, ⟨T107, L107, k107, n107⟩, -, X107, ⟨Lc107, hQ107, l107, y107, z107⟩, st107⟩ := Jvm.LawKit.callS X102 hx (y := mn16) hown (mvT hZ (wd218 hw)) (mvT hZ (wd219 hw)) (mvT hZ (wd220 hw)) (mvT hZ (wd221 hw)) (by decide) (backOf (W := 4) (rm_mmin la Z a0 hw [] (Int32.ofNat cap) (Int32.ofNat c2) h102 n0 O106) hZ (wd221 hw) (wd220 hw) (by decide) (by decide)) (g := (mkF mi 25 #[.val (.ref t), .val (.int (Int32.ofNat c2)), .val (.ref b102)] [(.int (Int32.ofNat c2)), (.int (Int32.ofNat cap)), (.int 0), (.ref b102), (.int 0), (.ref t)])) rfl (by rw [hml]; rfl) (argsL := [(.int (Int32.ofNat cap)), (.int (Int32.ofNat c2))]) (rest := [(.int 0), (.ref b102), (.int 0), (.ref t)]) (lenOf pd_8 rfl) rfl (Nat.le_of_ble_eq_true rfl) (hb hby dj4_25) (fun _ _ => ⟨rfl, e102, (by decide : 1 + 0 ≤ _), (by decide : 120 + 0 ≤ _)⟩)
  dsimp only [Pt.U, Pt.locs, Pt.cells, Pt.slots] at X107 l107 y107 z107 st107 hQ107
  subst l107 y107 z107
  obtain ⟨rfl, Nq107, ek107⟩ := hQ107
  have N107 := Fr.app N0 Nq107
  have pre108 : ∀ tt, SP pg ev below (T107.setTop (mkF mi 28 #[.val (.ref t), .val (.int (Int32.ofNat c2)), .val (.ref b102)] [(.int (if (Int32.ofNat c2) < (Int32.ofNat cap) then (Int32.ofNat c2) else (Int32.ofNat cap))), (.int 0), (.ref b102), (.int 0), (.ref t)])) tt → SP pg ev below (s₁.setTop (entryFrame mi #[(.ref t), (.int (Int32.ofNat c2))] 3)) tt := fun tt kk => pre0 _ (by
    show SP pg ev below (s₁.setTop (mkF mi 0 #[.val (.ref t), .val (.int (Int32.ofNat c2)), .unset] [])) _
    refine XS.iloadN X0.here hx rfl (hb hby dj4_0) rfl ?_
    refine XS.aloadN X0.here hx rfl (hb hby dj4_1) rfl rfl ?_
    refine X0.arraylength hx (cell := cl101) (by rw [eE]; exact Ar101.1) (State.isArrayOf_alike hZ.alike Ar101.2.1) (g := (mkF mi 2 #[.val (.ref t), .val (.int (Int32.ofNat c2)), .unset] [(.ref t), (.int (Int32.ofNat c2))])) rfl (rest := [(.int (Int32.ofNat c2))]) rfl (hb hby dj4_2) _ ?_
    rw [len_of Sz101 Nn101]
    refine XS.icmpYes X0.here hx rfl (pc0 := 3) (pc' := 14) rfl (hb hby dj4_3) rfl (feq (fun q => absurd ((own_eq32 (by omega) (by omega)).mp q) (by omega))).2 (by decide) (by decide) ?_
    refine XS.iloadN X0.here hx rfl (hb hby dj4_14) rfl ?_
    refine st102 _ ?_
    refine XS.astoreN X102.here hx rfl (hb hby dj4_17) rfl rfl (l' := #[.val (.ref t), .val (.int (Int32.ofNat c2)), .val (.ref b102)]) rfl ?_
    refine XS.aloadN X102.here hx rfl (hb hby dj4_18) rfl rfl ?_
    refine XS.iconst X102.here hx rfl (hb hby dj4_19) ?_
    refine XS.aloadN X102.here hx rfl (hb hby dj4_20) rfl rfl ?_
    refine XS.iconst X102.here hx rfl (hb hby dj4_21) ?_
    refine XS.aloadN X102.here hx rfl (hb hby dj4_22) rfl rfl ?_
    refine X102.arraylength hx (cell := cl105) (by rw [e102]; exact Ar105.1) (State.isArrayOf_alike hZ.alike Ar105.2.1) (g := (mkF mi 23 #[.val (.ref t), .val (.int (Int32.ofNat c2)), .val (.ref b102)] [(.ref t), (.int 0), (.ref b102), (.int 0), (.ref t)])) rfl (rest := [(.int 0), (.ref b102), (.int 0), (.ref t)]) rfl (hb hby dj4_23) _ ?_
    rw [len_of Sz105 Nn105]
    refine XS.iloadN X102.here hx rfl (hb hby dj4_24) rfl ?_
    refine st107 _ ?_
    exact kk)
  have pre109 : ∀ tt, SP pg ev below (T107.setTop (mkF mi 28 #[.val (.ref t), .val (.int (Int32.ofNat c2)), .val (.ref b102)] [(.int (Int32.ofNat cap)), (.int 0), (.ref b102), (.int 0), (.ref t)])) tt → SP pg ev below (s₁.setTop (entryFrame mi #[(.ref t), (.int (Int32.ofNat c2))] 3)) tt := fun tt kk => pre108 tt (by rw [if_neg (fun q => absurd ((own_lt32 (by omega) (by omega)).mp q) (by omega))]; exact kk)
  have g_b102 : n0 ≤ b102 := Nat.le_trans (Nat.le_trans (Nat.le_of_eq O.1.symm) O.2.1) (Nat.le_of_eq q102.symm)
  obtain ⟨T110, h110, L110, X110, e110, N110, Kq110, V110, st110⟩ := cpA X107 hx hZ hown (wd222 hw) (wd172 hw) (wd170 hw) (wd171 hw) ek107 (us := (pads cap cs)) f104 f103 (Or.inl ⟨rfl, rfl⟩) (by decide) (by decide) (own_len_nn (by omega)) (by rw [own_n32 (n := cap) (by omega)]; exact Nat.le_of_eq (Nat.zero_add _)) (by rw [own_n32 (n := cap) (by omega), own_n32 (n := c2) (by omega)]; show 0 + cap ≤ c2; omega) (own_us (by rw [own_n32 (n := cap) (by omega), own_pads_len hlc])) (by rw [own_n32 (n := cap) (by omega)]; simp; omega) N107 g_b102 (g := (mkF mi 28 #[.val (.ref t), .val (.int (Int32.ofNat c2)), .val (.ref b102)] [(.int (Int32.ofNat cap)), (.int 0), (.ref b102), (.int 0), (.ref t)])) rfl (by rw [hml]; rfl) (rest := []) rfl (hb hby dj4_28) (by decide) (W := 0) (Nat.le_of_ble_eq_true rfl) (by decide)
  have f111 : Arv Z h110 b102 k102 .byte (Int32.ofNat c2) (pads c2 cs) (.int 0) := by have hq := V110; rw [own_n32 (n := cap) (by omega), show (0 : Int32).toNatClampNeg = 0 from rfl, own_pads_grow hlc (by omega)] at hq; exact hq
  have f112 : Exa Z h110 b102 "[B" := (B102.keep Kq110)
  obtain ⟨fs, hr, hrun, hended, hW, hsame⟩ := X110.leave (v := some (.ref b102)) (fun hq => by rw [Bd.returns] at hq; cases hq)
  refine ⟨_, _, pre109 _ ?_, hrun, hended, _, _, rfl, ?_, ⟨_, rfl⟩, hW, hsame.mono (by decide) (by decide)⟩
  · show SP pg ev below (T107.setTop (mkF mi 28 #[.val (.ref t), .val (.int (Int32.ofNat c2)), .val (.ref b102)] [(.int (Int32.ofNat cap)), (.int 0), (.ref b102), (.int 0), (.ref t)])) _
    refine st110 _ ?_
    refine XS.aloadN X110.here hx rfl (hb hby dj4_31) rfl rfl ?_
    show SP pg ev below (T110.setTop (mkF mi 32 #[.val (.ref t), .val (.int (Int32.ofNat c2)), .val (.ref b102)] [(.ref b102)])) _
    jvm_step X110.here [X110.here.top, hx, (hb hby dj4_32), X110.method', Bd.returns, Value.isRef, FieldType.isReference]
    first | (intro acts; rw [hr _ acts rfl rfl rfl]) | rw [hr _ _ rfl rfl rfl]
    exact Steps.refl _
  · show Q_cpo Z t kb cap cs c2 hE n0 _ T110.heap _
    rw [e110]
    exact ⟨b102, k102, rfl, N110, (((Keep.refl hE []).ext E102).trans Kq110 (allS (Or.inr (Nat.le_of_eq q102.symm)) all0)), (Nat.le_of_eq q102.symm), f111, f112⟩
theorem dj36_17 : decode jc36 17 = .ok (.aload_n 0, 1) := by decide +kernel
theorem dj36_18 : decode jc36 18 = .ok (.aload_n 0, 1) := by decide +kernel
theorem dj36_19 : decode jc36 19 = .ok (.getfield 15, 3) := by decide +kernel
theorem dj36_22 : decode jc36 22 = .ok (.aload_n 0, 1) := by decide +kernel
theorem dj36_23 : decode jc36 23 = .ok (.iload_n 1, 1) := by decide +kernel
theorem dj36_24 : decode jc36 24 = .ok (.invokevirtual 104, 3) := by decide +kernel
theorem dj36_27 : decode jc36 27 = .ok (.aload_n 0, 1) := by decide +kernel
theorem dj36_28 : decode jc36 28 = .ok (.getfield 22, 3) := by decide +kernel
theorem dj36_31 : decode jc36 31 = .ok (.ishl, 1) := by decide +kernel
theorem dj36_32 : decode jc36 32 = .ok (.invokestatic 108, 3) := by decide +kernel
theorem dj36_35 : decode jc36 35 = .ok (.putfield 15, 3) := by decide +kernel
theorem pd_10 : parseMethodDescriptor "(I)I" = some ⟨[.int], some .int⟩ := by decide +kernel
theorem pd_11 : parseMethodDescriptor "([BI)[B" = some ⟨[(.array .byte), .int], some (.array .byte)⟩ := by decide +kernel
theorem ef_ecg (mi : MethodId) (b : Addr) (n : Nat) : entryFrame mi #[(.ref b), (.int (Int32.ofNat n))] 3 = mkF mi 0 #[.val (.ref b), .val (.int (Int32.ofNat n)), .unset] [] := rfl
def Q_ecg (Z : State) (b : Addr) (n : Nat) (t : Addr) (kb : ClassId) (cap : Nat) (cs : List Int32) (p : Int32) (hE : Heap) (n0 : Nat) (vv : Option Value) (hh : Heap) (LL : List Loc) : Prop := ∃ r : Addr, ∃ kr : ClassId, (vv = none) ∧ (Fr n0 LL) ∧ (Keep hE hh [b]) ∧ (hE.size ≤ r) ∧ (Exa Z hh b c4_) ∧ (Fld Z hh b c2_ "value" "[B" (.ref r)) ∧ (Fld Z hh b c2_ "coder" "B" (.int 0)) ∧ (Fld Z hh b c2_ "count" "I" (.int p)) ∧ (Arv Z hh r kr .byte (Int32.ofNat (ncap cap n)) (pads (ncap cap n) cs) (.int 0)) ∧ (Exa Z hh r "[B")
theorem rm_ecg (hw : HW a0 Z) (ws : List Cond) (b : Addr) (n : Nat) (t : Addr) (kb : ClassId) (cap : Nat) (cs : List Int32) (p : Int32) (hE : Heap) (n0 : Nat) (O : Old Z n0 hE) (P0_ : Exa Z hE b c4_) (P1_ : Fld Z hE b c2_ "value" "[B" (.ref t)) (P2_ : Fld Z hE b c2_ "coder" "B" (.int 0)) (P3_ : Arv Z hE t kb .byte (Int32.ofNat cap) (pads cap cs) (.int 0)) (P4_ : Fld Z hE b c2_ "count" "I" (.int p)) (g_b : n0 ≤ b) (ne_t_b : t ≠ b) (hgt : cap < n) (hn : n ≤ 120) (hc5 : cap ≤ 50) (hlc : cs.length ≤ cap) :
    MF la Z hE mn12 jc36 3 none ws (rr 3 1 120 48) #[(.ref b), (.int (Int32.ofNat n))] (Q_ecg Z b n t kb cap cs p hE n0) := by
  refine MetFree.of_bodySF (plainFor_of_name pn_java_lang_AbstractStringBuilder) hisR ?_
  intro pg ev sb mi gs below me cd s₁ Bd hml0 hPt hKt
  obtain ⟨rfl, hZ, hh⟩ := hPt
  have hx := Bd.exec
  have hby := Bd.bytes
  have hml : cd.maxLocals = 3 := hml0
  have hown : sb.vm.findClass c2_ = some mi.cls := findClass_of_methodNamed Bd.named
  have X0 : Stand pg la ev (rr 3 1 120 48) sb mi #[(.ref b), (.int (Int32.ofNat n))] below me cd s₁ [] 0 0 := Stand.of_body Bd
  have eE : s₁.heap = hE := by rw [← hh, Bd.state]; rfl
  have N0 := Fr.nil n0
  have pre0 : ∀ tt, SP pg ev below (s₁.setTop (mkF mi 0 #[.val (.ref b), .val (.int (Int32.ofNat n)), .unset] [])) tt → SP pg ev below (s₁.setTop (entryFrame mi #[(.ref b), (.int (Int32.ofNat n))] 3)) tt := fun tt kk => castTop (ef_ecg mi b n) kk
  obtain ⟨T101, X101, e101, st101⟩ := getF X0 hx hZ hown (host := "") (Or.inl (wd126 hw)) Via.refl eE P1_ (g := (mkF mi 1 #[.val (.ref b), .val (.int (Int32.ofNat n)), .unset] [(.ref b)])) rfl rfl (hb hby dj36_1)
  obtain ⟨cl102, Ar102, -, Sz102, Nn102, -, -⟩ := id P3_
  obtain ⟨T103, X103, e103, st103⟩ := getF X101 hx hZ hown (host := "") (Or.inl (wd128 hw)) Via.refl e101 P2_ (g := (mkF mi 6 #[.val (.ref b), .val (.int (Int32.ofNat n)), .unset] [(.ref b), (.int (Int32.ofNat cap))])) rfl rfl (hb hby dj36_6)
  have pre104 : ∀ tt, SP pg ev below (T103.setTop (mkF mi 10 #[.val (.ref b), .val (.int (Int32.ofNat n)), .unset] [(.int ((Int32.ofNat cap) >>> ((0 : Int32) &&& 31)))])) tt → SP pg ev below (s₁.setTop (entryFrame mi #[(.ref b), (.int (Int32.ofNat n))] 3)) tt := fun tt kk => pre0 _ (by
    show SP pg ev below (s₁.setTop (mkF mi 0 #[.val (.ref b), .val (.int (Int32.ofNat n)), .unset] [])) _
    refine XS.aloadN X0.here hx rfl (hb hby dj36_0) rfl rfl ?_
    refine st101 _ ?_
    refine X101.arraylength hx (cell := cl102) (by rw [e101]; exact Ar102.1) (State.isArrayOf_alike hZ.alike Ar102.2.1) (g := (mkF mi 4 #[.val (.ref b), .val (.int (Int32.ofNat n)), .unset] [(.ref t)])) rfl (rest := []) rfl (hb hby dj36_4) _ ?_
    rw [len_of Sz102 Nn102]
    refine XS.aloadN X101.here hx rfl (hb hby dj36_5) rfl rfl ?_
    refine st103 _ ?_
    refine XS.ishr X103.here hx rfl (hb hby dj36_9) rfl ?_
    exact kk)
  have pre105 : ∀ tt, SP pg ev below (T103.setTop (mkF mi 10 #[.val (.ref b), .val (.int (Int32.ofNat n)), .unset] [(.int (Int32.ofNat cap))])) tt → SP pg ev below (s₁.setTop (entryFrame mi #[(.ref b), (.int (Int32.ofNat n))] 3)) tt := fun tt kk => pre104 tt (by rw [own_sh0]; exact kk)
  obtain ⟨T106, X106, e106, st106⟩ := getF X103 hx hZ hown (host := "") (Or.inl (wd126 hw)) Via.refl e103 P1_ (g := (mkF mi 19 #[.val (.ref b), .val (.int (Int32.ofNat n)), .val (.int (Int32.ofNat cap))] [(.ref b), (.ref b)])) rfl rfl (hb hby dj36_19)
  obtain ⟨cq107, qq107, qq107'⟩ := P0_.cell
  obtain ⟨v107, _, ⟨T107, L107, k107, n107⟩, -, X107, ⟨Lc107, hQ107, l107, y107, z107⟩, st107⟩ := X106.privateBack hx (y := mn15) hown (mvT hZ (wd270 hw)) (mvT hZ (wd271 hw)) (own_selP (mvT (args := #[]) hZ (wd151 hw)) rfl (Cond.privateMethod_at (mvP hZ (wd272 hw) (args := #[]))) (mvT hZ (wd271 hw)) (by decide)) (Cond.privateMethod_at (mvP hZ (wd272 hw) (args := #[]))) (mvT hZ (wd274 hw)) (by decide) (backOf (W := 2) (rm_ncp la Z a0 hw [] b n t kb cap cs hE n0 O P1_ P2_ P3_ (hgt : cap < n) (hn : n ≤ 120) (hc5 : cap ≤ 50)) hZ (wd274 hw) (wd122 hw) (by decide) (by decide)) (g := (mkF mi 24 #[.val (.ref b), .val (.int (Int32.ofNat n)), .val (.int (Int32.ofNat cap))] [(.int (Int32.ofNat n)), (.ref b), (.ref t), (.ref b)])) rfl (by rw [hml]; rfl) (Steps.refl _) (a := b) (by rw [e106]; exact qq107) qq107' (argsL := [(.int (Int32.ofNat n))]) (rest := [(.ref t), (.ref b)]) (lenOf pd_10 rfl) rfl (Nat.le_of_ble_eq_true rfl) (hb hby dj36_24) (fun _ _ => ⟨rfl, e106, (by decide : 0 + 0 ≤ _), (by decide : 0 + 0 ≤ _)⟩)
  dsimp only [Pt.U, Pt.locs, Pt.cells, Pt.slots] at X107 l107 y107 z107 st107 hQ107
  subst l107 y107 z107
  obtain ⟨rfl, Nq107, ek107⟩ := hQ107
  have N107 := Fr.app N0 Nq107
  obtain ⟨T108, X108, e108, st108⟩ := getF X107 hx hZ hown (host := "") (Or.inl (wd128 hw)) Via.refl ek107 P2_ (g := (mkF mi 28 #[.val (.ref b), .val (.int (Int32.ofNat n)), .val (.int (Int32.ofNat cap))] [(.ref b), (.int (Int32.ofNat (ncap cap n))), (.ref t), (.ref b)])) rfl rfl (hb hby dj36_28)
  have pre109 : ∀ tt, SP pg ev below (T108.setTop (mkF mi 32 #[.val (.ref b), .val (.int (Int32.ofNat n)), .val (.int (Int32.ofNat cap))] [(.int ((Int32.ofNat (ncap cap n)) <<< ((0 : Int32) &&& 31))), (.ref t), (.ref b)])) tt → SP pg ev below (s₁.setTop (entryFrame mi #[(.ref b), (.int (Int32.ofNat n))] 3)) tt := fun tt kk => pre105 _ (by
    show SP pg ev below (T103.setTop (mkF mi 10 #[.val (.ref b), .val (.int (Int32.ofNat n)), .unset] [(.int (Int32.ofNat cap))])) _
    refine XS.istoreN X103.here hx rfl (hb hby dj36_10) rfl (l' := #[.val (.ref b), .val (.int (Int32.ofNat n)), .val (.int (Int32.ofNat cap))]) rfl ?_
    refine XS.iloadN X103.here hx rfl (hb hby dj36_11) rfl ?_
    refine XS.iloadN X103.here hx rfl (hb hby dj36_12) rfl ?_
    refine XS.isub X103.here hx rfl (hb hby dj36_13) rfl ?_
    refine XS.ifNo X103.here hx rfl (hb hby dj36_14) rfl ((if0 _ _).trans (tlt ((own_gap (by omega) (by omega)).mpr hgt)).2.2.2) ?_
    refine XS.aloadN X103.here hx rfl (hb hby dj36_17) rfl rfl ?_
    refine XS.aloadN X103.here hx rfl (hb hby dj36_18) rfl rfl ?_
    refine st106 _ ?_
    refine XS.aloadN X106.here hx rfl (hb hby dj36_22) rfl rfl ?_
    refine XS.iloadN X106.here hx rfl (hb hby dj36_23) rfl ?_
    refine st107.trans ?_
    refine XS.aloadN X107.here hx rfl (hb hby dj36_27) rfl rfl ?_
    refine st108 _ ?_
    refine XS.ishl X108.here hx rfl (hb hby dj36_31) rfl ?_
    exact kk)
  have pre110 : ∀ tt, SP pg ev below (T108.setTop (mkF mi 32 #[.val (.ref b), .val (.int (Int32.ofNat n)), .val (.int (Int32.ofNat cap))] [(.int (Int32.ofNat (ncap cap n))), (.ref t), (.ref b)])) tt → SP pg ev below (s₁.setTop (entryFrame mi #[(.ref b), (.int (Int32.ofNat n))] 3)) tt := fun tt kk => pre109 tt (by rw [own_shl0]; exact kk)
  obtain ⟨v111, _, ⟨T111, L111, k111, n111⟩, -, X111, ⟨Lc111, hQ111, l111, y111, z111⟩, st111⟩ := Jvm.LawKit.callS X108 hx (y := mn17) hown (mvT hZ (wd284 hw)) (mvT hZ (wd285 hw)) (mvT hZ (wd210 hw)) (mvT hZ (wd286 hw)) (by decide) (backOf (W := 1) (rm_cpo la Z a0 hw [] t kb cap cs (ncap cap n) hE n0 O P3_ (hlc : cs.length ≤ cap) ((own_ncap hgt hn hc5).2.1 : cap < (ncap cap n)) ((own_ncap hgt hn hc5).2.2 : (ncap cap n) ≤ 120)) hZ (wd286 hw) (wd210 hw) (by decide) (by decide)) (g := (mkF mi 32 #[.val (.ref b), .val (.int (Int32.ofNat n)), .val (.int (Int32.ofNat cap))] [(.int (Int32.ofNat (ncap cap n))), (.ref t), (.ref b)])) rfl (by rw [hml]; rfl) (argsL := [(.ref t), (.int (Int32.ofNat (ncap cap n)))]) (rest := [(.ref b)]) (lenOf pd_11 rfl) rfl (Nat.le_of_ble_eq_true rfl) (hb hby dj36_32) (fun _ _ => ⟨rfl, e108, (by decide : 0 + 1 ≤ _), (by decide : 0 + 120 ≤ _)⟩)
  dsimp only [Pt.U, Pt.locs, Pt.cells, Pt.slots] at X111 l111 y111 z111 st111 hQ111
  subst l111 y111 z111
  obtain ⟨r_111, kr_111, rfl, Nq111, Kq111, fr_r_111, r111_0, r111_1⟩ := hQ111
  have N111 := Fr.app N107 Nq111
  have f112 : Exa Z T111.heap b c4_ := (P0_.keep Kq111)
  have f113 : Fld Z T111.heap b c2_ "value" "[B" (.ref t) := (P1_.keep Kq111 nin0)
  obtain ⟨T114, h114, X114, e114, W114, st114⟩ := putF X111 hx hZ hown (host := "") (Or.inl (wd126 hw)) Via.refl rfl f113 f112 (Or.inl (wd127 hw)) (wd113 hw) (ty := (.array .byte)) (by decide) rfl rfl (g := (mkF mi 35 #[.val (.ref b), .val (.int (Int32.ofNat n)), .val (.int (Int32.ofNat cap))] [(.ref r_111), (.ref b)])) rfl rfl (hb hby dj36_35)
  have N114 := Fr.snoc X114 N111 g_b
  have f115 : Fld Z h114 b c2_ "value" "[B" (.ref r_111) := f113.same W114
  have f116 : Exa Z h114 b c4_ := (f112.keep (Keep.of_wr W114))
  have f117 : Fld Z h114 b c2_ "coder" "B" (.int 0) := ((P2_.keep Kq111 nin0).other W114 (Or.inr (slot_ne (Or.inl (wd129 hw)) (Or.inl (wd127 hw)) (by decide) (t := .byte) (t' := (.array .byte)) (by decide) (by decide))))
  have f118 : Fld Z h114 b c2_ "count" "I" (.int p) := ((P4_.keep Kq111 nin0).other W114 (Or.inr (slot_ne (Or.inl (wd147 hw)) (Or.inl (wd127 hw)) (by decide) (t := .int) (t' := (.array .byte)) (by decide) (by decide))))
  have ne_b_r_111 : b ≠ r_111 := Nat.ne_of_lt (Nat.lt_of_lt_of_le P0_.lt (Nat.le_trans (Nat.le_refl _) fr_r_111))
  have f119 : Arv Z h114 r_111 kr_111 .byte (Int32.ofNat (ncap cap n)) (pads (ncap cap n) cs) (.int 0) := (r111_0.keep (Keep.of_wr W114) (ninS (Ne.symm ne_b_r_111) nin0))
  have f120 : Exa Z h114 r_111 "[B" := (r111_1.keep (Keep.of_wr W114))
  obtain ⟨fs, hr, hrun, hended, hW, hsame⟩ := X114.leave (v := none) (fun _ => rfl)
  refine ⟨_, _, pre110 _ ?_, hrun, hended, _, _, rfl, ?_, ⟨_, rfl⟩, hW, hsame.mono (by decide) (by decide)⟩
  · show SP pg ev below (T108.setTop (mkF mi 32 #[.val (.ref b), .val (.int (Int32.ofNat n)), .val (.int (Int32.ofNat cap))] [(.int (Int32.ofNat (ncap cap n))), (.ref t), (.ref b)])) _
    refine st111 _ ?_
    refine st114 _ ?_
    show SP pg ev below (T114.setTop (mkF mi 38 #[.val (.ref b), .val (.int (Int32.ofNat n)), .val (.int (Int32.ofNat cap))] [])) _
    exact X114.returnOut hx Bd.returns (hb hby dj36_38) hr
  · show Q_ecg Z b n t kb cap cs p hE n0 _ T114.heap _
    rw [e114]
    exact ⟨r_111, kr_111, rfl, N114, (((Keep.refl hE [b]).trans Kq111 all0).trans (Keep.of_wr W114) (allS (Or.inl (List.mem_of_getElem? (i := 0) rfl)) all0)), fr_r_111, f116, f115, f117, f118, f119, f120⟩
theorem dj21_0 : decode jc21 0 = .ok (.aload_n 1, 1) := by decide +kernel
theorem dj21_1 : decode jc21 1 = .ok (.ifnonnull 8, 3) := by decide +kernel
theorem dj21_9 : decode jc21 9 = .ok (.aload_n 1, 1) := by decide +kernel
theorem dj21_10 : decode jc21 10 = .ok (.invokevirtual 32, 3) := by decide +kernel
theorem dj21_13 : decode jc21 13 = .ok (.istore_n 2, 1) := by decide +kernel
theorem dj21_14 : decode jc21 14 = .ok (.aload_n 0, 1) := by decide +kernel
theorem dj21_15 : decode jc21 15 = .ok (.aload_n 0, 1) := by decide +kernel
theorem dj21_16 : decode jc21 16 = .ok (.getfield 79, 3) := by decide +kernel
theorem dj21_19 : decode jc21 19 = .ok (.iload_n 2, 1) := by decide +kernel
theorem dj21_20 : decode jc21 20 = .ok (.iadd, 1) := by decide +kernel
theorem dj21_21 : decode jc21 21 = .ok (.invokevirtual 100, 3) := by decide +kernel
theorem dj21_24 : decode jc21 24 = .ok (.aload_n 0, 1) := by decide +kernel
theorem dj21_25 : decode jc21 25 = .ok (.aload_n 0, 1) := by decide +kernel
theorem dj21_26 : decode jc21 26 = .ok (.getfield 79, 3) := by decide +kernel
theorem dj21_29 : decode jc21 29 = .ok (.aload_n 1, 1) := by decide +kernel
theorem dj21_30 : decode jc21 30 = .ok (.invokevirtual 208, 3) := by decide +kernel
theorem dj21_33 : decode jc21 33 = .ok (.aload_n 0, 1) := by decide +kernel
theorem dj21_34 : decode jc21 34 = .ok (.dup, 1) := by decide +kernel
theorem dj21_35 : decode jc21 35 = .ok (.getfield 79, 3) := by decide +kernel
theorem dj21_38 : decode jc21 38 = .ok (.iload_n 2, 1) := by decide +kernel
theorem dj21_39 : decode jc21 39 = .ok (.iadd, 1) := by decide +kernel
theorem dj21_40 : decode jc21 40 = .ok (.putfield 79, 3) := by decide +kernel
theorem dj21_43 : decode jc21 43 = .ok (.aload_n 0, 1) := by decide +kernel
theorem dj21_44 : decode jc21 44 = .ok (.areturn, 1) := by decide +kernel
theorem pd_12 : parseMethodDescriptor "()I" = some ⟨[], some .int⟩ := by decide +kernel
theorem pd_13 : parseMethodDescriptor "(ILjava/lang/String;)V" = some ⟨[.int, (.object "java/lang/String")], none⟩ := by decide +kernel
theorem ef_aap_grow (mi : MethodId) (b : Addr) (y : Addr) : entryFrame mi #[(.ref b), (.ref y)] 3 = mkF mi 0 #[.val (.ref b), .val (.ref y), .unset] [] := rfl
def Q_aap_grow (Z : State) (b y t u : Addr) (cap : Nat) (cs ds : List Int32) (zc : Int32) (hE : Heap) (n0 : Nat) (vv : Option Value) (hh : Heap) (LL : List Loc) : Prop := ∃ r : Addr, (vv = some (.ref b)) ∧ (Fr n0 LL) ∧ (Keep hE hh [b]) ∧ (hE.size ≤ r) ∧ (SBl Z hh b r (ncap cap (cs.length + ds.length)) (cs ++ ds))
theorem rm_aap_grow (hw : HW a0 Z) (ws : List Cond) (b y t u : Addr) (cap : Nat) (cs ds : List Int32) (zc : Int32) (hE : Heap) (n0 : Nat) (O : Old Z n0 hE) (P0_ : SBl Z hE b t cap cs) (P1_ : LStr Z hE y u ds) (D0_ : Sta Z Z.heap c1_ c5_ "Z" (.int zc)) (g_b : n0 ≤ b) (ne_b_t : b ≠ t) (ne_y_b : y ≠ b) (ne_u_b : u ≠ b) (hgt : cap < cs.length + ds.length) (hn : cs.length + ds.length ≤ 120) (hc5 : cap ≤ 50) (hzc : ¬ (zc = (0 : Int32))) :
    MF la Z hE mn18 jc21 3 (some (.object c2_)) ws (rr 4 1 120 62) #[(.ref b), (.ref y)] (Q_aap_grow Z b y t u cap cs ds zc hE n0) := by
  refine MetFree.of_bodySF (plainFor_of_name pn_java_lang_AbstractStringBuilder) hisR ?_
  intro pg ev sb mi gs below me cd s₁ Bd hml0 hPt hKt
  obtain ⟨rfl, hZ, hh⟩ := hPt
  have hx := Bd.exec
  have hby := Bd.bytes
  have hml : cd.maxLocals = 3 := hml0
  have hown : sb.vm.findClass c2_ = some mi.cls := findClass_of_methodNamed Bd.named
  have X0 : Stand pg la ev (rr 4 1 120 62) sb mi #[(.ref b), (.ref y)] below me cd s₁ [] 0 0 := Stand.of_body Bd
  have eE : s₁.heap = hE := by rw [← hh, Bd.state]; rfl
  have N0 := Fr.nil n0
  have pre0 : ∀ tt, SP pg ev below (s₁.setTop (mkF mi 0 #[.val (.ref b), .val (.ref y), .unset] [])) tt → SP pg ev below (s₁.setTop (entryFrame mi #[(.ref b), (.ref y)] 3)) tt := fun tt kk => castTop (ef_aap_grow mi b y) kk
  obtain ⟨bE101, bV101, bC101, bN101, ⟨kb101, bK101⟩, bX101, bb101, bl101, bm101⟩ := id P0_
  obtain ⟨sE102, sV102, sC102, ⟨kb102, sK102⟩, sb102, sl102⟩ := id P1_
  obtain ⟨cq103, kq103, q103a, q103b, q103c⟩ := isOf hZ eE sE102
  obtain ⟨v103, _, ⟨T103, L103, k103, n103⟩, -, X103, ⟨Lc103, hQ103, l103, y103, z103⟩, st103⟩ := X0.virtualBack hx (y := mn1) (z := mn1) hown (mvT hZ (wd141 hw)) (mvT hZ (wd142 hw)) (notFace_of_selects (args := #[]) (mvT hZ (wd144 hw))) (mvT hZ (wd144 hw)) (mvT hZ (wd143 hw)) (by decide) (backOf (W := 0) (rm_slen la Z a0 hw [] y u ds zc hE n0 O P1_ D0_ (hzc : ¬ (zc = (0 : Int32)))) hZ (wd145 hw) (wd6 hw) (by decide) (by decide)) q103a q103c (g := (mkF mi 10 #[.val (.ref b), .val (.ref y), .unset] [(.ref y)])) rfl (by rw [hml]; rfl) (Steps.refl _) (argsL := []) (rest := []) (lenOf pd_12 rfl) rfl (Nat.le_of_ble_eq_true rfl) (hb hby dj21_10) (fun _ _ => ⟨rfl, eE, (by decide : 0 + 0 ≤ _), (by decide : 0 + 0 ≤ _)⟩)
  dsimp only [Pt.U, Pt.locs, Pt.cells, Pt.slots] at X103 l103 y103 z103 st103 hQ103
  subst l103 y103 z103
  obtain ⟨rfl, Nq103, ek103⟩ := hQ103
  have N103 := Fr.app N0 Nq103
  obtain ⟨T104, X104, e104, st104⟩ := getF X103 hx hZ hown (host := "") (Or.inl (wd146 hw)) Via.refl ek103 bN101 (g := (mkF mi 16 #[.val (.ref b), .val (.ref y), .val (.int (Int32.ofNat ds.length))] [(.ref b), (.ref b)])) rfl rfl (hb hby dj21_16)
  have pre105 : ∀ tt, SP pg ev below (T104.setTop (mkF mi 21 #[.val (.ref b), .val (.ref y), .val (.int (Int32.ofNat ds.length))] [(.int ((Int32.ofNat cs.length) + (Int32.ofNat ds.length))), (.ref b)])) tt → SP pg ev below (s₁.setTop (entryFrame mi #[(.ref b), (.ref y)] 3)) tt := fun tt kk => pre0 _ (by
    show SP pg ev below (s₁.setTop (mkF mi 0 #[.val (.ref b), .val (.ref y), .unset] [])) _
    refine XS.aloadN X0.here hx rfl (hb hby dj21_0) rfl rfl ?_
    refine XS.ifnonnullYes X0.here hx rfl (pc0 := 1) (pc' := 9) rfl (hb hby dj21_1) rfl (by decide) (by decide) ?_
    refine XS.aloadN X0.here hx rfl (hb hby dj21_9) rfl rfl ?_
    refine st103.trans ?_
    refine XS.istoreN X103.here hx rfl (hb hby dj21_13) rfl (l' := #[.val (.ref b), .val (.ref y), .val (.int (Int32.ofNat ds.length))]) rfl ?_
    refine XS.aloadN X103.here hx rfl (hb hby dj21_14) rfl rfl ?_
    refine XS.aloadN X103.here hx rfl (hb hby dj21_15) rfl rfl ?_
    refine st104 _ ?_
    refine XS.iloadN X104.here hx rfl (hb hby dj21_19) rfl ?_
    refine XS.iadd X104.here hx rfl (hb hby dj21_20) rfl ?_
    exact kk)
  have pre106 : ∀ tt, SP pg ev below (T104.setTop (mkF mi 21 #[.val (.ref b), .val (.ref y), .val (.int (Int32.ofNat ds.length))] [(.int (Int32.ofNat (cs.length + ds.length))), (.ref b)])) tt → SP pg ev below (s₁.setTop (entryFrame mi #[(.ref b), (.ref y)] 3)) tt := fun tt kk => pre105 tt (by rw [own_add32]; exact kk)
  obtain ⟨cq107, qq107, qq107'⟩ := bE101.cell
  obtain ⟨v107, _, ⟨T107, L107, k107, n107⟩, -, X107, ⟨Lc107, hQ107, l107, y107, z107⟩, st107⟩ := X104.privateBack hx (y := mn12) hown (mvT hZ (wd148 hw)) (mvT hZ (wd149 hw)) (own_selP (mvT (args := #[]) hZ (wd151 hw)) rfl (Cond.privateMethod_at (mvP hZ (wd150 hw) (args := #[]))) (mvT hZ (wd149 hw)) (by decide)) (Cond.privateMethod_at (mvP hZ (wd150 hw) (args := #[]))) (mvT hZ (wd152 hw)) (by decide) (backOf (W := 0) (rm_ecg la Z a0 hw [] b (cs.length + ds.length) t kb101 cap cs (Int32.ofNat cs.length) hE n0 O bE101 bV101 bC101 bK101 bN101 g_b (Ne.symm ne_b_t) (by first | assumption | exact Nat.le_of_ble_eq_true rfl | rfl | decide | omega : cap < (cs.length + ds.length)) (by first | assumption | exact Nat.le_of_ble_eq_true rfl | rfl | decide | omega : (cs.length + ds.length) ≤ 120) (hc5 : cap ≤ 50) (bl101 : cs.length ≤ cap)) hZ (wd152 hw) (wd122 hw) (by decide) (by decide)) (g := (mkF mi 21 #[.val (.ref b), .val (.ref y), .val (.int (Int32.ofNat ds.length))] [(.int (Int32.ofNat (cs.length + ds.length))), (.ref b)])) rfl (by rw [hml]; rfl) (Steps.refl _) (a := b) (by rw [e104]; exact qq107) qq107' (argsL := [(.int (Int32.ofNat (cs.length + ds.length)))]) (rest := []) (lenOf pd_5 rfl) rfl (Nat.le_of_ble_eq_true rfl) (hb hby dj21_21) (fun _ _ => ⟨rfl, e104, (by decide : 0 + 1 ≤ _), (by decide : 0 + 120 ≤ _)⟩)
  dsimp only [Pt.U, Pt.locs, Pt.cells, Pt.slots] at X107 l107 y107 z107 st107 hQ107
  subst l107 y107 z107
  obtain ⟨r_107, kr_107, rfl, Nq107, Kq107, fr_r_107, r107_0, r107_1, r107_2, r107_3, r107_4, r107_5⟩ := hQ107
  have N107 := Fr.app N103 Nq107
  obtain ⟨T108, X108, e108, st108⟩ := getF X107 hx hZ hown (host := "") (Or.inl (wd146 hw)) Via.refl rfl r107_3 (g := (mkF mi 26 #[.val (.ref b), .val (.ref y), .val (.int (Int32.ofNat ds.length))] [(.ref b), (.ref b)])) rfl rfl (hb hby dj21_26)
  have O109 : Old Z n0 T107.heap := (O.keep Kq107 (allS g_b all0))
  have f110 : LStr Z T107.heap y u ds := (P1_.keep Kq107 (ninS ne_y_b nin0) (ninS ne_u_b nin0))
  have g_r_107 : n0 ≤ r_107 := Nat.le_trans (Nat.le_trans (Nat.le_of_eq O.1.symm) O.2.1) fr_r_107
  have ne_b_r_107 : b ≠ r_107 := Nat.ne_of_lt (Nat.lt_of_lt_of_le P0_.lt (Nat.le_trans (Nat.le_refl _) fr_r_107))
  obtain ⟨cq111, qq111, qq111'⟩ := r107_0.cell
  obtain ⟨v111, _, ⟨T111, L111, k111, n111⟩, -, X111, ⟨Lc111, hQ111, l111, y111, z111⟩, st111⟩ := X108.privateBack hx (y := mn11) hown (mvT hZ (wd153 hw)) (mvT hZ (wd154 hw)) (own_selP (mvT (args := #[]) hZ (wd151 hw)) rfl (Cond.privateMethod_at (mvP hZ (wd155 hw) (args := #[]))) (mvT hZ (wd154 hw)) (by decide)) (Cond.privateMethod_at (mvP hZ (wd155 hw) (args := #[]))) (mvT hZ (wd157 hw)) (by decide) (backOf (W := 0) (rm_psa la Z a0 hw [] b y r_107 u kr_107 (ncap cap (cs.length + ds.length)) cs ds zc T107.heap n0 O109 r107_0 r107_1 r107_2 f110 r107_4 D0_ g_r_107 ne_b_r_107 ((own_ncap hgt hn hc5).1 : cs.length + ds.length ≤ (ncap cap (cs.length + ds.length))) ((own_ncap hgt hn hc5).2.2 : (ncap cap (cs.length + ds.length)) ≤ 120) (hzc : ¬ (zc = (0 : Int32)))) hZ (wd157 hw) (wd122 hw) (by decide) (by decide)) (g := (mkF mi 30 #[.val (.ref b), .val (.ref y), .val (.int (Int32.ofNat ds.length))] [(.ref y), (.int (Int32.ofNat cs.length)), (.ref b)])) rfl (by rw [hml]; rfl) (Steps.refl _) (a := b) (by rw [e108]; exact qq111) qq111' (argsL := [(.int (Int32.ofNat cs.length)), (.ref y)]) (rest := []) (lenOf pd_13 rfl) rfl (Nat.le_of_ble_eq_true rfl) (hb hby dj21_30) (fun _ _ => ⟨rfl, e108, (by decide : 1 + 0 ≤ _), (by decide : 120 + 0 ≤ _)⟩)
  dsimp only [Pt.U, Pt.locs, Pt.cells, Pt.slots] at X111 l111 y111 z111 st111 hQ111
  subst l111 y111 z111
  obtain ⟨rfl, Nq111, Kq111, r111_0⟩ := hQ111
  have N111 := Fr.app N107 Nq111
  have f112 : Fld Z T111.heap b c2_ "count" "I" (.int (Int32.ofNat cs.length)) := (r107_3.keep Kq111 (ninS ne_b_r_107 nin0))
  obtain ⟨T113, X113, e113, st113⟩ := getF X111 hx hZ hown (host := "") (Or.inl (wd146 hw)) Via.refl rfl f112 (g := (mkF mi 35 #[.val (.ref b), .val (.ref y), .val (.int (Int32.ofNat ds.length))] [(.ref b), (.ref b)])) rfl rfl (hb hby dj21_35)
  have pre114 : ∀ tt, SP pg ev below (T113.setTop (mkF mi 40 #[.val (.ref b), .val (.ref y), .val (.int (Int32.ofNat ds.length))] [(.int ((Int32.ofNat cs.length) + (Int32.ofNat ds.length))), (.ref b)])) tt → SP pg ev below (s₁.setTop (entryFrame mi #[(.ref b), (.ref y)] 3)) tt := fun tt kk => pre106 _ (by
    show SP pg ev below (T104.setTop (mkF mi 21 #[.val (.ref b), .val (.ref y), .val (.int (Int32.ofNat ds.length))] [(.int (Int32.ofNat (cs.length + ds.length))), (.ref b)])) _
    refine st107.trans ?_
    refine XS.aloadN X107.here hx rfl (hb hby dj21_24) rfl rfl ?_
    refine XS.aloadN X107.here hx rfl (hb hby dj21_25) rfl rfl ?_
    refine st108 _ ?_
    refine XS.aloadN X108.here hx rfl (hb hby dj21_29) rfl rfl ?_
    refine st111.trans ?_
    refine XS.aloadN X111.here hx rfl (hb hby dj21_33) rfl rfl ?_
    refine XS.dup X111.here hx rfl (hb hby dj21_34) rfl rfl ?_
    refine st113 _ ?_
    refine XS.iloadN X113.here hx rfl (hb hby dj21_38) rfl ?_
    refine XS.iadd X113.here hx rfl (hb hby dj21_39) rfl ?_
    exact kk)
  have pre115 : ∀ tt, SP pg ev below (T113.setTop (mkF mi 40 #[.val (.ref b), .val (.ref y), .val (.int (Int32.ofNat ds.length))] [(.int (Int32.ofNat (cs.length + ds.length))), (.ref b)])) tt → SP pg ev below (s₁.setTop (entryFrame mi #[(.ref b), (.ref y)] 3)) tt := fun tt kk => pre114 tt (by rw [own_add32]; exact kk)
  have f116 : Exa Z T111.heap b c4_ := (r107_0.keep Kq111)
  obtain ⟨T117, h117, X117, e117, W117, st117⟩ := putF X113 hx hZ hown (host := "") (Or.inl (wd146 hw)) Via.refl e113 f112 f116 (Or.inl (wd147 hw)) (wd113 hw) (ty := .int) (by decide) rfl rfl (g := (mkF mi 40 #[.val (.ref b), .val (.ref y), .val (.int (Int32.ofNat ds.length))] [(.int (Int32.ofNat (cs.length + ds.length))), (.ref b)])) rfl rfl (hb hby dj21_40)
  have N117 := Fr.snoc X117 N111 g_b
  have f118 : Fld Z h117 b c2_ "count" "I" (.int (Int32.ofNat (cs.length + ds.length))) := f112.same W117
  have f120 : Exa Z h117 b c4_ := (f116.keep (Keep.of_wr W117))
  have f121 : Fld Z h117 b c2_ "value" "[B" (.ref r_107) := ((r107_1.keep Kq111 (ninS ne_b_r_107 nin0)).other W117 (Or.inr (slot_ne (Or.inl (wd127 hw)) (Or.inl (wd147 hw)) (by decide) (t := (.array .byte)) (t' := .int) (by decide) (by decide))))
  have f122 : Fld Z h117 b c2_ "coder" "B" (.int 0) := ((r107_2.keep Kq111 (ninS ne_b_r_107 nin0)).other W117 (Or.inr (slot_ne (Or.inl (wd129 hw)) (Or.inl (wd147 hw)) (by decide) (t := .byte) (t' := .int) (by decide) (by decide))))
  have f123 : Arv Z h117 r_107 kr_107 .byte (Int32.ofNat (ncap cap (cs.length + ds.length))) (pads (ncap cap (cs.length + ds.length)) (cs ++ ds)) (.int 0) := (r111_0.keep (Keep.of_wr W117) (ninS (Ne.symm ne_b_r_107) nin0))
  have f124 : Exa Z h117 r_107 "[B" := ((r107_5.keep Kq111).keep (Keep.of_wr W117))
  have s119 : SBl Z h117 b r_107 (ncap cap (cs.length + ds.length)) (cs ++ ds) := ⟨f120, f121, f122, (by rw [List.length_append]; exact f118), ⟨_, f123⟩, f124, own_bd_app bb101 sb102, (by rw [List.length_append]; exact (own_ncap hgt hn hc5).1), (own_ncap hgt hn hc5).2.2⟩
  obtain ⟨fs, hr, hrun, hended, hW, hsame⟩ := X117.leave (v := some (.ref b)) (fun hq => by rw [Bd.returns] at hq; cases hq)
  refine ⟨_, _, pre115 _ ?_, hrun, hended, _, _, rfl, ?_, ⟨_, rfl⟩, hW, hsame.mono (by decide) (by decide)⟩
  · show SP pg ev below (T113.setTop (mkF mi 40 #[.val (.ref b), .val (.ref y), .val (.int (Int32.ofNat ds.length))] [(.int (Int32.ofNat (cs.length + ds.length))), (.ref b)])) _
    refine st117 _ ?_
    refine XS.aloadN X117.here hx rfl (hb hby dj21_43) rfl rfl ?_
    show SP pg ev below (T117.setTop (mkF mi 44 #[.val (.ref b), .val (.ref y), .val (.int (Int32.ofNat ds.length))] [(.ref b)])) _
    jvm_step X117.here [X117.here.top, hx, (hb hby dj21_44), X117.method', Bd.returns, Value.isRef, FieldType.isReference]
    first | (intro acts; rw [hr _ acts rfl rfl rfl]) | rw [hr _ _ rfl rfl rfl]
    exact Steps.refl _
  · show Q_aap_grow Z b y t u cap cs ds zc hE n0 _ T117.heap _
    rw [e117]
    exact ⟨r_107, rfl, N117, ((((Keep.refl hE [b]).trans Kq107 (allS (Or.inl (List.mem_of_getElem? (i := 0) rfl)) all0)).trans Kq111 (allS (Or.inr fr_r_107) all0)).trans (Keep.of_wr W117) (allS (Or.inl (List.mem_of_getElem? (i := 0) rfl)) all0)), fr_r_107, s119⟩
theorem dj37_0 : decode jc37 0 = .ok (.aload_n 0, 1) := by decide +kernel
theorem dj37_1 : decode jc37 1 = .ok (.aload_n 1, 1) := by decide +kernel
theorem dj37_2 : decode jc37 2 = .ok (.invokespecial 29, 3) := by decide +kernel
theorem dj37_5 : decode jc37 5 = .ok (.pop, 1) := by decide +kernel
theorem dj37_6 : decode jc37 6 = .ok (.aload_n 0, 1) := by decide +kernel
theorem dj37_7 : decode jc37 7 = .ok (.areturn, 1) := by decide +kernel
theorem pd_14 : parseMethodDescriptor "(Ljava/lang/String;)Ljava/lang/AbstractStringBuilder;" = some ⟨[(.object "java/lang/String")], some (.object "java/lang/AbstractStringBuilder")⟩ := by decide +kernel
theorem ef_sap_grow (mi : MethodId) (b : Addr) (y : Addr) : entryFrame mi #[(.ref b), (.ref y)] 2 = mkF mi 0 #[.val (.ref b), .val (.ref y)] [] := rfl
def Q_sap_grow (Z : State) (b y t u : Addr) (cap : Nat) (cs ds : List Int32) (zc : Int32) (hE : Heap) (n0 : Nat) (vv : Option Value) (hh : Heap) (LL : List Loc) : Prop := ∃ r : Addr, (vv = some (.ref b)) ∧ (Fr n0 LL) ∧ (Keep hE hh [b]) ∧ (hE.size ≤ r) ∧ (SBl Z hh b r (ncap cap (cs.length + ds.length)) (cs ++ ds))
theorem rm_sap_grow (hw : HW a0 Z) (ws : List Cond) (b y t u : Addr) (cap : Nat) (cs ds : List Int32) (zc : Int32) (hE : Heap) (n0 : Nat) (O : Old Z n0 hE) (P0_ : SBl Z hE b t cap cs) (P1_ : LStr Z hE y u ds) (D0_ : Sta Z Z.heap c1_ c5_ "Z" (.int zc)) (g_b : n0 ≤ b) (ne_b_t : b ≠ t) (ne_y_b : y ≠ b) (ne_u_b : u ≠ b) (hgt : cap < cs.length + ds.length) (hn : cs.length + ds.length ≤ 120) (hc5 : cap ≤ 50) (hzc : ¬ (zc = (0 : Int32))) :
    MF la Z hE mn19 jc37 2 (some (.object c4_)) ws (rr 5 1 120 76) #[(.ref b), (.ref y)] (Q_sap_grow Z b y t u cap cs ds zc hE n0) := by
  refine MetFree.of_bodySF (plainFor_of_name pn_java_lang_StringBuilder) hisR ?_
  intro pg ev sb mi gs below me cd s₁ Bd hml0 hPt hKt
  obtain ⟨rfl, hZ, hh⟩ := hPt
  have hx := Bd.exec
  have hby := Bd.bytes
  have hml : cd.maxLocals = 2 := hml0
  have hown : sb.vm.findClass c4_ = some mi.cls := findClass_of_methodNamed Bd.named
  have X0 : Stand pg la ev (rr 5 1 120 76) sb mi #[(.ref b), (.ref y)] below me cd s₁ [] 0 0 := Stand.of_body Bd
  have eE : s₁.heap = hE := by rw [← hh, Bd.state]; rfl
  have N0 := Fr.nil n0
  have pre0 : ∀ tt, SP pg ev below (s₁.setTop (mkF mi 0 #[.val (.ref b), .val (.ref y)] [])) tt → SP pg ev below (s₁.setTop (entryFrame mi #[(.ref b), (.ref y)] 2)) tt := fun tt kk => castTop (ef_sap_grow mi b y) kk
  have f102 : Exa Z hE b c4_ := (P0_).1
  obtain ⟨v101, _, ⟨T101, L101, k101, n101⟩, -, X101, ⟨Lc101, hQ101, l101, y101, z101⟩, st101⟩ := superBack X0 hx hZ (y := mn18) hown (wd136 hw) (own_sameP (wd151 hw) rfl (wd137 hw) (by decide)) (wd137 hw) (wd138 hw) (by decide) (backOf (W := 0) (rm_aap_grow la Z a0 hw [] b y t u cap cs ds zc hE n0 O P0_ P1_ D0_ g_b ne_b_t ne_y_b ne_u_b (hgt : cap < cs.length + ds.length) (hn : cs.length + ds.length ≤ 120) (hc5 : cap ≤ 50) (hzc : ¬ (zc = (0 : Int32)))) hZ (wd140 hw) (wd122 hw) (by decide) (by decide)) eE (Ins.self f102) (g := (mkF mi 2 #[.val (.ref b), .val (.ref y)] [(.ref y), (.ref b)])) rfl (by rw [hml]; rfl) (wd140 hw) (argsL := [(.ref y)]) (rest := []) (lenOf pd_14 rfl) rfl (Nat.le_of_ble_eq_true rfl) (hb hby dj37_2) (fun _ _ => ⟨rfl, eE, (by decide : 0 + 1 ≤ _), (by decide : 0 + 120 ≤ _)⟩)
  dsimp only [Pt.U, Pt.locs, Pt.cells, Pt.slots] at X101 l101 y101 z101 st101 hQ101
  subst l101 y101 z101
  obtain ⟨r_101, rfl, Nq101, Kq101, fr_r_101, r101_0⟩ := hQ101
  have N101 := Fr.app N0 Nq101
  obtain ⟨fs, hr, hrun, hended, hW, hsame⟩ := X101.leave (v := some (.ref b)) (fun hq => by rw [Bd.returns] at hq; cases hq)
  refine ⟨_, _, pre0 _ ?_, hrun, hended, _, _, rfl, ?_, ⟨_, rfl⟩, hW, hsame.mono (by decide) (by decide)⟩
  · show SP pg ev below (s₁.setTop (mkF mi 0 #[.val (.ref b), .val (.ref y)] [])) _
    refine XS.aloadN X0.here hx rfl (hb hby dj37_0) rfl rfl ?_
    refine XS.aloadN X0.here hx rfl (hb hby dj37_1) rfl rfl ?_
    refine st101.trans ?_
    refine XS.pop X101.here hx rfl (hb hby dj37_5) rfl rfl ?_
    refine XS.aloadN X101.here hx rfl (hb hby dj37_6) rfl rfl ?_
    show SP pg ev below (T101.setTop (mkF mi 7 #[.val (.ref b), .val (.ref y)] [(.ref b)])) _
    jvm_step X101.here [X101.here.top, hx, (hb hby dj37_7), X101.method', Bd.returns, Value.isRef, FieldType.isReference]
    first | (intro acts; rw [hr _ acts rfl rfl rfl]) | rw [hr _ _ rfl rfl rfl]
    exact Steps.refl _
  · show Q_sap_grow Z b y t u cap cs ds zc hE n0 _ T101.heap _
    exact ⟨r_101, rfl, N101, ((Keep.refl hE [b]).trans Kq101 (allS (Or.inl (List.mem_of_getElem? (i := 0) rfl)) all0)), fr_r_101, r101_0⟩
theorem ef_aap_fit (mi : MethodId) (b : Addr) (y : Addr) : entryFrame mi #[(.ref b), (.ref y)] 3 = mkF mi 0 #[.val (.ref b), .val (.ref y), .unset] [] := rfl
def Q_aap_fit (Z : State) (b y t u : Addr) (cap : Nat) (cs ds : List Int32) (zc : Int32) (hE : Heap) (n0 : Nat) (vv : Option Value) (hh : Heap) (LL : List Loc) : Prop := (vv = some (.ref b)) ∧ (Fr n0 LL) ∧ (Keep hE hh [b, t]) ∧ (SBl Z hh b t cap (cs ++ ds))
theorem rm_aap_fit (hw : HW a0 Z) (ws : List Cond) (b y t u : Addr) (cap : Nat) (cs ds : List Int32) (zc : Int32) (hE : Heap) (n0 : Nat) (O : Old Z n0 hE) (P0_ : SBl Z hE b t cap cs) (P1_ : LStr Z hE y u ds) (D0_ : Sta Z Z.heap c1_ c5_ "Z" (.int zc)) (g_b : n0 ≤ b) (g_t : n0 ≤ t) (ne_b_t : b ≠ t) (ne_y_b : y ≠ b) (ne_u_b : u ≠ b) (hfit : cs.length + ds.length ≤ cap) (hzc : ¬ (zc = (0 : Int32))) :
    MF la Z hE mn18 jc21 3 (some (.object c2_)) ws (rr 3 0 0 47) #[(.ref b), (.ref y)] (Q_aap_fit Z b y t u cap cs ds zc hE n0) := by
  refine MetFree.of_bodySF (plainFor_of_name pn_java_lang_AbstractStringBuilder) hisR ?_
  intro pg ev sb mi gs below me cd s₁ Bd hml0 hPt hKt
  obtain ⟨rfl, hZ, hh⟩ := hPt
  have hx := Bd.exec
  have hby := Bd.bytes
  have hml : cd.maxLocals = 3 := hml0
  have hown : sb.vm.findClass c2_ = some mi.cls := findClass_of_methodNamed Bd.named
  have X0 : Stand pg la ev (rr 3 0 0 47) sb mi #[(.ref b), (.ref y)] below me cd s₁ [] 0 0 := Stand.of_body Bd
  have eE : s₁.heap = hE := by rw [← hh, Bd.state]; rfl
  have N0 := Fr.nil n0
  have pre0 : ∀ tt, SP pg ev below (s₁.setTop (mkF mi 0 #[.val (.ref b), .val (.ref y), .unset] [])) tt → SP pg ev below (s₁.setTop (entryFrame mi #[(.ref b), (.ref y)] 3)) tt := fun tt kk => castTop (ef_aap_fit mi b y) kk
  obtain ⟨bE101, bV101, bC101, bN101, ⟨kb101, bK101⟩, bX101, bb101, bl101, bm101⟩ := id P0_
  obtain ⟨sE102, sV102, sC102, ⟨kb102, sK102⟩, sb102, sl102⟩ := id P1_
  obtain ⟨cq103, kq103, q103a, q103b, q103c⟩ := isOf hZ eE sE102
  obtain ⟨v103, _, ⟨T103, L103, k103, n103⟩, -, X103, ⟨Lc103, hQ103, l103, y103, z103⟩, st103⟩ := X0.virtualBack hx (y := mn1) (z := mn1) hown (mvT hZ (wd141 hw)) (mvT hZ (wd142 hw)) (notFace_of_selects (args := #[]) (mvT hZ (wd144 hw))) (mvT hZ (wd144 hw)) (mvT hZ (wd143 hw)) (by decide) (backOf (W := 0) (rm_slen la Z a0 hw [] y u ds zc hE n0 O P1_ D0_ (hzc : ¬ (zc = (0 : Int32)))) hZ (wd145 hw) (wd6 hw) (by decide) (by decide)) q103a q103c (g := (mkF mi 10 #[.val (.ref b), .val (.ref y), .unset] [(.ref y)])) rfl (by rw [hml]; rfl) (Steps.refl _) (argsL := []) (rest := []) (lenOf pd_12 rfl) rfl (Nat.le_of_ble_eq_true rfl) (hb hby dj21_10) (fun _ _ => ⟨rfl, eE, (by decide : 0 + 0 ≤ _), (by decide : 0 + 0 ≤ _)⟩)
  dsimp only [Pt.U, Pt.locs, Pt.cells, Pt.slots] at X103 l103 y103 z103 st103 hQ103
  subst l103 y103 z103
  obtain ⟨rfl, Nq103, ek103⟩ := hQ103
  have N103 := Fr.app N0 Nq103
  obtain ⟨T104, X104, e104, st104⟩ := getF X103 hx hZ hown (host := "") (Or.inl (wd146 hw)) Via.refl ek103 bN101 (g := (mkF mi 16 #[.val (.ref b), .val (.ref y), .val (.int (Int32.ofNat ds.length))] [(.ref b), (.ref b)])) rfl rfl (hb hby dj21_16)
  have pre105 : ∀ tt, SP pg ev below (T104.setTop (mkF mi 21 #[.val (.ref b), .val (.ref y), .val (.int (Int32.ofNat ds.length))] [(.int ((Int32.ofNat cs.length) + (Int32.ofNat ds.length))), (.ref b)])) tt → SP pg ev below (s₁.setTop (entryFrame mi #[(.ref b), (.ref y)] 3)) tt := fun tt kk => pre0 _ (by
    show SP pg ev below (s₁.setTop (mkF mi 0 #[.val (.ref b), .val (.ref y), .unset] [])) _
    refine XS.aloadN X0.here hx rfl (hb hby dj21_0) rfl rfl ?_
    refine XS.ifnonnullYes X0.here hx rfl (pc0 := 1) (pc' := 9) rfl (hb hby dj21_1) rfl (by decide) (by decide) ?_
    refine XS.aloadN X0.here hx rfl (hb hby dj21_9) rfl rfl ?_
    refine st103.trans ?_
    refine XS.istoreN X103.here hx rfl (hb hby dj21_13) rfl (l' := #[.val (.ref b), .val (.ref y), .val (.int (Int32.ofNat ds.length))]) rfl ?_
    refine XS.aloadN X103.here hx rfl (hb hby dj21_14) rfl rfl ?_
    refine XS.aloadN X103.here hx rfl (hb hby dj21_15) rfl rfl ?_
    refine st104 _ ?_
    refine XS.iloadN X104.here hx rfl (hb hby dj21_19) rfl ?_
    refine XS.iadd X104.here hx rfl (hb hby dj21_20) rfl ?_
    exact kk)
  have pre106 : ∀ tt, SP pg ev below (T104.setTop (mkF mi 21 #[.val (.ref b), .val (.ref y), .val (.int (Int32.ofNat ds.length))] [(.int (Int32.ofNat (cs.length + ds.length))), (.ref b)])) tt → SP pg ev below (s₁.setTop (entryFrame mi #[(.ref b), (.ref y)] 3)) tt := fun tt kk => pre105 tt (by rw [own_add32]; exact kk)
  obtain ⟨cq107, qq107, qq107'⟩ := bE101.cell
  obtain ⟨v107, _, ⟨T107, L107, k107, n107⟩, -, X107, ⟨Lc107, hQ107, l107, y107, z107⟩, st107⟩ := X104.privateBack hx (y := mn12) hown (mvT hZ (wd148 hw)) (mvT hZ (wd149 hw)) (own_selP (mvT (args := #[]) hZ (wd151 hw)) rfl (Cond.privateMethod_at (mvP hZ (wd150 hw) (args := #[]))) (mvT hZ (wd149 hw)) (by decide)) (Cond.privateMethod_at (mvP hZ (wd150 hw) (args := #[]))) (mvT hZ (wd152 hw)) (by decide) (backOf (W := 0) (rm_eci la Z a0 hw [] b (cs.length + ds.length) t kb101 cap cs hE n0 O bE101 bV101 bC101 bK101 (hfit : (cs.length + ds.length) ≤ cap) (bm101 : cap ≤ 120)) hZ (wd152 hw) (wd122 hw) (by decide) (by decide)) (g := (mkF mi 21 #[.val (.ref b), .val (.ref y), .val (.int (Int32.ofNat ds.length))] [(.int (Int32.ofNat (cs.length + ds.length))), (.ref b)])) rfl (by rw [hml]; rfl) (Steps.refl _) (a := b) (by rw [e104]; exact qq107) qq107' (argsL := [(.int (Int32.ofNat (cs.length + ds.length)))]) (rest := []) (lenOf pd_5 rfl) rfl (Nat.le_of_ble_eq_true rfl) (hb hby dj21_21) (fun _ _ => ⟨rfl, e104, (by decide : 0 + 0 ≤ _), (by decide : 0 + 0 ≤ _)⟩)
  dsimp only [Pt.U, Pt.locs, Pt.cells, Pt.slots] at X107 l107 y107 z107 st107 hQ107
  subst l107 y107 z107
  obtain ⟨rfl, Nq107, ek107⟩ := hQ107
  have N107 := Fr.app N103 Nq107
  obtain ⟨T108, X108, e108, st108⟩ := getF X107 hx hZ hown (host := "") (Or.inl (wd146 hw)) Via.refl ek107 bN101 (g := (mkF mi 26 #[.val (.ref b), .val (.ref y), .val (.int (Int32.ofNat ds.length))] [(.ref b), (.ref b)])) rfl rfl (hb hby dj21_26)
  obtain ⟨cq109, qq109, qq109'⟩ := bE101.cell
  obtain ⟨v109, _, ⟨T109, L109, k109, n109⟩, -, X109, ⟨Lc109, hQ109, l109, y109, z109⟩, st109⟩ := X108.privateBack hx (y := mn11) hown (mvT hZ (wd153 hw)) (mvT hZ (wd154 hw)) (own_selP (mvT (args := #[]) hZ (wd151 hw)) rfl (Cond.privateMethod_at (mvP hZ (wd155 hw) (args := #[]))) (mvT hZ (wd154 hw)) (by decide)) (Cond.privateMethod_at (mvP hZ (wd155 hw) (args := #[]))) (mvT hZ (wd157 hw)) (by decide) (backOf (W := 0) (rm_psa la Z a0 hw [] b y t u kb101 cap cs ds zc hE n0 O bE101 bV101 bC101 P1_ bK101 D0_ g_t ne_b_t (hfit : cs.length + ds.length ≤ cap) (bm101 : cap ≤ 120) (hzc : ¬ (zc = (0 : Int32)))) hZ (wd157 hw) (wd122 hw) (by decide) (by decide)) (g := (mkF mi 30 #[.val (.ref b), .val (.ref y), .val (.int (Int32.ofNat ds.length))] [(.ref y), (.int (Int32.ofNat cs.length)), (.ref b)])) rfl (by rw [hml]; rfl) (Steps.refl _) (a := b) (by rw [e108]; exact qq109) qq109' (argsL := [(.int (Int32.ofNat cs.length)), (.ref y)]) (rest := []) (lenOf pd_13 rfl) rfl (Nat.le_of_ble_eq_true rfl) (hb hby dj21_30) (fun _ _ => ⟨rfl, e108, (by decide : 0 + 0 ≤ _), (by decide : 0 + 0 ≤ _)⟩)
  dsimp only [Pt.U, Pt.locs, Pt.cells, Pt.slots] at X109 l109 y109 z109 st109 hQ109
  subst l109 y109 z109
  obtain ⟨rfl, Nq109, Kq109, r109_0⟩ := hQ109
  have N109 := Fr.app N107 Nq109
  have ne_y_t : y ≠ t := Exa.neArv sE102 bK101 (wd14 hw)
  have f110 : Fld Z T109.heap b c2_ "count" "I" (.int (Int32.ofNat cs.length)) := (bN101.keep Kq109 (ninS ne_b_t nin0))
  obtain ⟨T111, X111, e111, st111⟩ := getF X109 hx hZ hown (host := "") (Or.inl (wd146 hw)) Via.refl rfl f110 (g := (mkF mi 35 #[.val (.ref b), .val (.ref y), .val (.int (Int32.ofNat ds.length))] [(.ref b), (.ref b)])) rfl rfl (hb hby dj21_35)
  have pre112 : ∀ tt, SP pg ev below (T111.setTop (mkF mi 40 #[.val (.ref b), .val (.ref y), .val (.int (Int32.ofNat ds.length))] [(.int ((Int32.ofNat cs.length) + (Int32.ofNat ds.length))), (.ref b)])) tt → SP pg ev below (s₁.setTop (entryFrame mi #[(.ref b), (.ref y)] 3)) tt := fun tt kk => pre106 _ (by
    show SP pg ev below (T104.setTop (mkF mi 21 #[.val (.ref b), .val (.ref y), .val (.int (Int32.ofNat ds.length))] [(.int (Int32.ofNat (cs.length + ds.length))), (.ref b)])) _
    refine st107.trans ?_
    refine XS.aloadN X107.here hx rfl (hb hby dj21_24) rfl rfl ?_
    refine XS.aloadN X107.here hx rfl (hb hby dj21_25) rfl rfl ?_
    refine st108 _ ?_
    refine XS.aloadN X108.here hx rfl (hb hby dj21_29) rfl rfl ?_
    refine st109.trans ?_
    refine XS.aloadN X109.here hx rfl (hb hby dj21_33) rfl rfl ?_
    refine XS.dup X109.here hx rfl (hb hby dj21_34) rfl rfl ?_
    refine st111 _ ?_
    refine XS.iloadN X111.here hx rfl (hb hby dj21_38) rfl ?_
    refine XS.iadd X111.here hx rfl (hb hby dj21_39) rfl ?_
    exact kk)
  have pre113 : ∀ tt, SP pg ev below (T111.setTop (mkF mi 40 #[.val (.ref b), .val (.ref y), .val (.int (Int32.ofNat ds.length))] [(.int (Int32.ofNat (cs.length + ds.length))), (.ref b)])) tt → SP pg ev below (s₁.setTop (entryFrame mi #[(.ref b), (.ref y)] 3)) tt := fun tt kk => pre112 tt (by rw [own_add32]; exact kk)
  have f114 : Exa Z T109.heap b c4_ := (bE101.keep Kq109)
  obtain ⟨T115, h115, X115, e115, W115, st115⟩ := putF X111 hx hZ hown (host := "") (Or.inl (wd146 hw)) Via.refl e111 f110 f114 (Or.inl (wd147 hw)) (wd113 hw) (ty := .int) (by decide) rfl rfl (g := (mkF mi 40 #[.val (.ref b), .val (.ref y), .val (.int (Int32.ofNat ds.length))] [(.int (Int32.ofNat (cs.length + ds.length))), (.ref b)])) rfl rfl (hb hby dj21_40)
  have N115 := Fr.snoc X115 N109 g_b
  have f116 : Fld Z h115 b c2_ "count" "I" (.int (Int32.ofNat (cs.length + ds.length))) := f110.same W115
  have f118 : Exa Z h115 b c4_ := (f114.keep (Keep.of_wr W115))
  have f119 : Fld Z h115 b c2_ "value" "[B" (.ref t) := ((bV101.keep Kq109 (ninS ne_b_t nin0)).other W115 (Or.inr (slot_ne (Or.inl (wd127 hw)) (Or.inl (wd147 hw)) (by decide) (t := (.array .byte)) (t' := .int) (by decide) (by decide))))
  have f120 : Fld Z h115 b c2_ "coder" "B" (.int 0) := ((bC101.keep Kq109 (ninS ne_b_t nin0)).other W115 (Or.inr (slot_ne (Or.inl (wd129 hw)) (Or.inl (wd147 hw)) (by decide) (t := .byte) (t' := .int) (by decide) (by decide))))
  have f121 : Arv Z h115 t kb101 .byte (Int32.ofNat cap) (pads cap (cs ++ ds)) (.int 0) := (r109_0.keep (Keep.of_wr W115) (ninS (Ne.symm ne_b_t) nin0))
  have f122 : Exa Z h115 t "[B" := ((bX101.keep Kq109).keep (Keep.of_wr W115))
  have s117 : SBl Z h115 b t cap (cs ++ ds) := ⟨f118, f119, f120, (by rw [List.length_append]; exact f116), ⟨_, f121⟩, f122, own_bd_app bb101 sb102, (by rw [List.length_append]; exact hfit), bm101⟩
  obtain ⟨fs, hr, hrun, hended, hW, hsame⟩ := X115.leave (v := some (.ref b)) (fun hq => by rw [Bd.returns] at hq; cases hq)
  refine ⟨_, _, pre113 _ ?_, hrun, hended, _, _, rfl, ?_, ⟨_, rfl⟩, hW, hsame.mono (by decide) (by decide)⟩
  · show SP pg ev below (T111.setTop (mkF mi 40 #[.val (.ref b), .val (.ref y), .val (.int (Int32.ofNat ds.length))] [(.int (Int32.ofNat (cs.length + ds.length))), (.ref b)])) _
    refine st115 _ ?_
    refine XS.aloadN X115.here hx rfl (hb hby dj21_43) rfl rfl ?_
    show SP pg ev below (T115.setTop (mkF mi 44 #[.val (.ref b), .val (.ref y), .val (.int (Int32.ofNat ds.length))] [(.ref b)])) _
    jvm_step X115.here [X115.here.top, hx, (hb hby dj21_44), X115.method', Bd.returns, Value.isRef, FieldType.isReference]
    first | (intro acts; rw [hr _ acts rfl rfl rfl]) | rw [hr _ _ rfl rfl rfl]
    exact Steps.refl _
  · show Q_aap_fit Z b y t u cap cs ds zc hE n0 _ T115.heap _
    rw [e115]
    exact ⟨rfl, N115, (((Keep.refl hE [b, t]).trans Kq109 (allS (Or.inl (List.mem_of_getElem? (i := 1) rfl)) all0)).trans (Keep.of_wr W115) (allS (Or.inl (List.mem_of_getElem? (i := 0) rfl)) all0)), s117⟩
theorem ef_sap_fit (mi : MethodId) (b : Addr) (y : Addr) : entryFrame mi #[(.ref b), (.ref y)] 2 = mkF mi 0 #[.val (.ref b), .val (.ref y)] [] := rfl
def Q_sap_fit (Z : State) (b y t u : Addr) (cap : Nat) (cs ds : List Int32) (zc : Int32) (hE : Heap) (n0 : Nat) (vv : Option Value) (hh : Heap) (LL : List Loc) : Prop := (vv = some (.ref b)) ∧ (Fr n0 LL) ∧ (Keep hE hh [b, t]) ∧ (SBl Z hh b t cap (cs ++ ds))
theorem rm_sap_fit (hw : HW a0 Z) (ws : List Cond) (b y t u : Addr) (cap : Nat) (cs ds : List Int32) (zc : Int32) (hE : Heap) (n0 : Nat) (O : Old Z n0 hE) (P0_ : SBl Z hE b t cap cs) (P1_ : LStr Z hE y u ds) (D0_ : Sta Z Z.heap c1_ c5_ "Z" (.int zc)) (g_b : n0 ≤ b) (g_t : n0 ≤ t) (ne_b_t : b ≠ t) (ne_y_b : y ≠ b) (ne_u_b : u ≠ b) (hfit : cs.length + ds.length ≤ cap) (hzc : ¬ (zc = (0 : Int32))) :
    MF la Z hE mn19 jc37 2 (some (.object c4_)) ws (rr 5 1 120 76) #[(.ref b), (.ref y)] (Q_sap_fit Z b y t u cap cs ds zc hE n0) := by
  refine MetFree.of_bodySF (plainFor_of_name pn_java_lang_StringBuilder) hisR ?_
  intro pg ev sb mi gs below me cd s₁ Bd hml0 hPt hKt
  obtain ⟨rfl, hZ, hh⟩ := hPt
  have hx := Bd.exec
  have hby := Bd.bytes
  have hml : cd.maxLocals = 2 := hml0
  have hown : sb.vm.findClass c4_ = some mi.cls := findClass_of_methodNamed Bd.named
  have X0 : Stand pg la ev (rr 5 1 120 76) sb mi #[(.ref b), (.ref y)] below me cd s₁ [] 0 0 := Stand.of_body Bd
  have eE : s₁.heap = hE := by rw [← hh, Bd.state]; rfl
  have N0 := Fr.nil n0
  have pre0 : ∀ tt, SP pg ev below (s₁.setTop (mkF mi 0 #[.val (.ref b), .val (.ref y)] [])) tt → SP pg ev below (s₁.setTop (entryFrame mi #[(.ref b), (.ref y)] 2)) tt := fun tt kk => castTop (ef_sap_fit mi b y) kk
  have f102 : Exa Z hE b c4_ := (P0_).1
  obtain ⟨v101, _, ⟨T101, L101, k101, n101⟩, -, X101, ⟨Lc101, hQ101, l101, y101, z101⟩, st101⟩ := superBack X0 hx hZ (y := mn18) hown (wd136 hw) (own_sameP (wd151 hw) rfl (wd137 hw) (by decide)) (wd137 hw) (wd138 hw) (by decide) (backOf (W := 0) (rm_aap_fit la Z a0 hw [] b y t u cap cs ds zc hE n0 O P0_ P1_ D0_ g_b g_t ne_b_t ne_y_b ne_u_b (hfit : cs.length + ds.length ≤ cap) (hzc : ¬ (zc = (0 : Int32)))) hZ (wd140 hw) (wd122 hw) (by decide) (by decide)) eE (Ins.self f102) (g := (mkF mi 2 #[.val (.ref b), .val (.ref y)] [(.ref y), (.ref b)])) rfl (by rw [hml]; rfl) (wd140 hw) (argsL := [(.ref y)]) (rest := []) (lenOf pd_14 rfl) rfl (Nat.le_of_ble_eq_true rfl) (hb hby dj37_2) (fun _ _ => ⟨rfl, eE, (by decide : 0 + 0 ≤ _), (by decide : 0 + 0 ≤ _)⟩)
  dsimp only [Pt.U, Pt.locs, Pt.cells, Pt.slots] at X101 l101 y101 z101 st101 hQ101
  subst l101 y101 z101
  obtain ⟨rfl, Nq101, Kq101, r101_0⟩ := hQ101
  have N101 := Fr.app N0 Nq101
  obtain ⟨fs, hr, hrun, hended, hW, hsame⟩ := X101.leave (v := some (.ref b)) (fun hq => by rw [Bd.returns] at hq; cases hq)
  refine ⟨_, _, pre0 _ ?_, hrun, hended, _, _, rfl, ?_, ⟨_, rfl⟩, hW, hsame.mono (by decide) (by decide)⟩
  · show SP pg ev below (s₁.setTop (mkF mi 0 #[.val (.ref b), .val (.ref y)] [])) _
    refine XS.aloadN X0.here hx rfl (hb hby dj37_0) rfl rfl ?_
    refine XS.aloadN X0.here hx rfl (hb hby dj37_1) rfl rfl ?_
    refine st101.trans ?_
    refine XS.pop X101.here hx rfl (hb hby dj37_5) rfl rfl ?_
    refine XS.aloadN X101.here hx rfl (hb hby dj37_6) rfl rfl ?_
    show SP pg ev below (T101.setTop (mkF mi 7 #[.val (.ref b), .val (.ref y)] [(.ref b)])) _
    jvm_step X101.here [X101.here.top, hx, (hb hby dj37_7), X101.method', Bd.returns, Value.isRef, FieldType.isReference]
    first | (intro acts; rw [hr _ acts rfl rfl rfl]) | rw [hr _ _ rfl rfl rfl]
    exact Steps.refl _
  · show Q_sap_fit Z b y t u cap cs ds zc hE n0 _ T101.heap _
    exact ⟨rfl, N101, ((Keep.refl hE [b, t]).trans Kq101 (allS (Or.inl (List.mem_of_getElem? (i := 0) rfl)) (allS (Or.inl (List.mem_of_getElem? (i := 1) rfl)) all0))), r101_0⟩
theorem dj22_0 : decode jc22 0 = .ok (.aload_n 0, 1) := by decide +kernel
theorem dj22_1 : decode jc22 1 = .ok (.getfield 15, 3) := by decide +kernel
theorem dj22_4 : decode jc22 4 = .ok (.areturn, 1) := by decide +kernel
theorem ef_agv (mi : MethodId) (b : Addr) : entryFrame mi #[(.ref b)] 1 = mkF mi 0 #[.val (.ref b)] [] := rfl
def Q_agv (Z : State) (b t : Addr) (hE : Heap) (n0 : Nat) (vv : Option Value) (hh : Heap) (LL : List Loc) : Prop := (vv = some (.ref t)) ∧ (Fr n0 LL) ∧ (hh = hE)
theorem rm_agv (hw : HW a0 Z) (ws : List Cond) (b t : Addr) (hE : Heap) (n0 : Nat) (O : Old Z n0 hE) (P0_ : Fld Z hE b c2_ "value" "[B" (.ref t)) :
    MF la Z hE mn20 jc22 1 (some (.array .byte)) ws (rr 0 0 0 0) #[(.ref b)] (Q_agv Z b t hE n0) := by
  refine MetFree.of_bodySF (plainFor_of_name pn_java_lang_AbstractStringBuilder) hisR ?_
  intro pg ev sb mi gs below me cd s₁ Bd hml0 hPt hKt
  obtain ⟨rfl, hZ, hh⟩ := hPt
  have hx := Bd.exec
  have hby := Bd.bytes
  have hml : cd.maxLocals = 1 := hml0
  have hown : sb.vm.findClass c2_ = some mi.cls := findClass_of_methodNamed Bd.named
  have X0 : Stand pg la ev (rr 0 0 0 0) sb mi #[(.ref b)] below me cd s₁ [] 0 0 := Stand.of_body Bd
  have eE : s₁.heap = hE := by rw [← hh, Bd.state]; rfl
  have N0 := Fr.nil n0
  have pre0 : ∀ tt, SP pg ev below (s₁.setTop (mkF mi 0 #[.val (.ref b)] [])) tt → SP pg ev below (s₁.setTop (entryFrame mi #[(.ref b)] 1)) tt := fun tt kk => castTop (ef_agv mi b) kk
  obtain ⟨T101, X101, e101, st101⟩ := getF X0 hx hZ hown (host := "") (Or.inl (wd126 hw)) Via.refl eE P0_ (g := (mkF mi 1 #[.val (.ref b)] [(.ref b)])) rfl rfl (hb hby dj22_1)
  obtain ⟨fs, hr, hrun, hended, hW, hsame⟩ := X101.leave (v := some (.ref t)) (fun hq => by rw [Bd.returns] at hq; cases hq)
  refine ⟨_, _, pre0 _ ?_, hrun, hended, _, _, rfl, ?_, ⟨_, rfl⟩, hW, hsame.mono (by decide) (by decide)⟩
  · show SP pg ev below (s₁.setTop (mkF mi 0 #[.val (.ref b)] [])) _
    refine XS.aloadN X0.here hx rfl (hb hby dj22_0) rfl rfl ?_
    refine st101 _ ?_
    show SP pg ev below (T101.setTop (mkF mi 4 #[.val (.ref b)] [(.ref t)])) _
    jvm_step X101.here [X101.here.top, hx, (hb hby dj22_4), X101.method', Bd.returns, Value.isRef, FieldType.isReference]
    first | (intro acts; rw [hr _ acts rfl rfl rfl]) | rw [hr _ _ rfl rfl rfl]
    exact Steps.refl _
  · show Q_agv Z b t hE n0 _ T101.heap _
    rw [e101]
    exact ⟨rfl, N0, rfl⟩
theorem dj38_0 : decode jc38 0 = .ok (.aload_n 0, 1) := by decide +kernel
theorem dj38_1 : decode jc38 1 = .ok (.getfield 79, 3) := by decide +kernel
theorem dj38_4 : decode jc38 4 = .ok (.ireturn, 1) := by decide +kernel
theorem ef_aln (mi : MethodId) (b : Addr) : entryFrame mi #[(.ref b)] 1 = mkF mi 0 #[.val (.ref b)] [] := rfl
def Q_aln (Z : State) (b : Addr) (p : Int32) (hE : Heap) (n0 : Nat) (vv : Option Value) (hh : Heap) (LL : List Loc) : Prop := (vv = some (.int p)) ∧ (Fr n0 LL) ∧ (hh = hE)
theorem rm_aln (hw : HW a0 Z) (ws : List Cond) (b : Addr) (p : Int32) (hE : Heap) (n0 : Nat) (O : Old Z n0 hE) (P0_ : Fld Z hE b c2_ "count" "I" (.int p)) :
    MF la Z hE mn21 jc38 1 (some .int) ws (rr 0 0 0 0) #[(.ref b)] (Q_aln Z b p hE n0) := by
  refine MetFree.of_bodySF (plainFor_of_name pn_java_lang_AbstractStringBuilder) hisR ?_
  intro pg ev sb mi gs below me cd s₁ Bd hml0 hPt hKt
  obtain ⟨rfl, hZ, hh⟩ := hPt
  have hx := Bd.exec
  have hby := Bd.bytes
  have hml : cd.maxLocals = 1 := hml0
  have hown : sb.vm.findClass c2_ = some mi.cls := findClass_of_methodNamed Bd.named
  have X0 : Stand pg la ev (rr 0 0 0 0) sb mi #[(.ref b)] below me cd s₁ [] 0 0 := Stand.of_body Bd
  have eE : s₁.heap = hE := by rw [← hh, Bd.state]; rfl
  have N0 := Fr.nil n0
  have pre0 : ∀ tt, SP pg ev below (s₁.setTop (mkF mi 0 #[.val (.ref b)] [])) tt → SP pg ev below (s₁.setTop (entryFrame mi #[(.ref b)] 1)) tt := fun tt kk => castTop (ef_aln mi b) kk
  obtain ⟨T101, X101, e101, st101⟩ := getF X0 hx hZ hown (host := "") (Or.inl (wd146 hw)) Via.refl eE P0_ (g := (mkF mi 1 #[.val (.ref b)] [(.ref b)])) rfl rfl (hb hby dj38_1)
  obtain ⟨fs, hr, hrun, hended, hW, hsame⟩ := X101.leave (v := some (.int p)) (fun hq => by rw [Bd.returns] at hq; cases hq)
  refine ⟨_, _, pre0 _ ?_, hrun, hended, _, _, rfl, ?_, ⟨_, rfl⟩, hW, hsame.mono (by decide) (by decide)⟩
  · show SP pg ev below (s₁.setTop (mkF mi 0 #[.val (.ref b)] [])) _
    refine XS.aloadN X0.here hx rfl (hb hby dj38_0) rfl rfl ?_
    refine st101 _ ?_
    show SP pg ev below (T101.setTop (mkF mi 4 #[.val (.ref b)] [(.int p)])) _
    exact retI X101 hx Bd.returns (hb hby dj38_4) hr
  · show Q_aln Z b p hE n0 _ T101.heap _
    rw [e101]
    exact ⟨rfl, N0, rfl⟩
theorem dj23_0 : decode jc23 0 = .ok (.aload_n 0, 1) := by decide +kernel
theorem dj23_1 : decode jc23 1 = .ok (.invokespecial 343, 3) := by decide +kernel
theorem dj23_4 : decode jc23 4 = .ok (.ireturn, 1) := by decide +kernel
theorem ef_sbl (mi : MethodId) (b : Addr) : entryFrame mi #[(.ref b)] 1 = mkF mi 0 #[.val (.ref b)] [] := rfl
def Q_sbl (Z : State) (b : Addr) (p : Int32) (hE : Heap) (n0 : Nat) (vv : Option Value) (hh : Heap) (LL : List Loc) : Prop := (vv = some (.int p)) ∧ (Fr n0 LL) ∧ (hh = hE)
theorem rm_sbl (hw : HW a0 Z) (ws : List Cond) (b : Addr) (p : Int32) (hE : Heap) (n0 : Nat) (O : Old Z n0 hE) (P0_ : Exa Z hE b c4_) (P1_ : Fld Z hE b c2_ "count" "I" (.int p)) :
    MF la Z hE mn22 jc23 1 (some .int) ws (rr 1 0 0 12) #[(.ref b)] (Q_sbl Z b p hE n0) := by
  refine MetFree.of_bodySF (plainFor_of_name pn_java_lang_StringBuilder) hisR ?_
  intro pg ev sb mi gs below me cd s₁ Bd hml0 hPt hKt
  obtain ⟨rfl, hZ, hh⟩ := hPt
  have hx := Bd.exec
  have hby := Bd.bytes
  have hml : cd.maxLocals = 1 := hml0
  have hown : sb.vm.findClass c4_ = some mi.cls := findClass_of_methodNamed Bd.named
  have X0 : Stand pg la ev (rr 1 0 0 12) sb mi #[(.ref b)] below me cd s₁ [] 0 0 := Stand.of_body Bd
  have eE : s₁.heap = hE := by rw [← hh, Bd.state]; rfl
  have N0 := Fr.nil n0
  have pre0 : ∀ tt, SP pg ev below (s₁.setTop (mkF mi 0 #[.val (.ref b)] [])) tt → SP pg ev below (s₁.setTop (entryFrame mi #[(.ref b)] 1)) tt := fun tt kk => castTop (ef_sbl mi b) kk
  obtain ⟨v101, _, ⟨T101, L101, k101, n101⟩, -, X101, ⟨Lc101, hQ101, l101, y101, z101⟩, st101⟩ := superBack X0 hx hZ (y := mn21) hown (wd201 hw) (own_sameP (wd151 hw) rfl (wd197 hw) (by decide)) (wd197 hw) (wd138 hw) (by decide) (backOf (W := 0) (rm_aln la Z a0 hw [] b p hE n0 O P1_) hZ (wd202 hw) (wd122 hw) (by decide) (by decide)) eE (Ins.self P0_) (g := (mkF mi 1 #[.val (.ref b)] [(.ref b)])) rfl (by rw [hml]; rfl) (wd202 hw) (argsL := []) (rest := []) (lenOf pd_12 rfl) rfl (Nat.le_of_ble_eq_true rfl) (hb hby dj23_1) (fun _ _ => ⟨rfl, eE, (by decide : 0 + 0 ≤ _), (by decide : 0 + 0 ≤ _)⟩)
  dsimp only [Pt.U, Pt.locs, Pt.cells, Pt.slots] at X101 l101 y101 z101 st101 hQ101
  subst l101 y101 z101
  obtain ⟨rfl, Nq101, ek101⟩ := hQ101
  have N101 := Fr.app N0 Nq101
  obtain ⟨fs, hr, hrun, hended, hW, hsame⟩ := X101.leave (v := some (.int p)) (fun hq => by rw [Bd.returns] at hq; cases hq)
  refine ⟨_, _, pre0 _ ?_, hrun, hended, _, _, rfl, ?_, ⟨_, rfl⟩, hW, hsame.mono (by decide) (by decide)⟩
  · show SP pg ev below (s₁.setTop (mkF mi 0 #[.val (.ref b)] [])) _
    refine XS.aloadN X0.here hx rfl (hb hby dj23_0) rfl rfl ?_
    refine st101.trans ?_
    show SP pg ev below (T101.setTop (mkF mi 4 #[.val (.ref b)] [(.int p)])) _
    exact retI X101 hx Bd.returns (hb hby dj23_4) hr
  · show Q_sbl Z b p hE n0 _ T101.heap _
    rw [ek101]
    exact ⟨rfl, N101, rfl⟩
theorem dj24_0 : decode jc24 0 = .ok (.getstatic 18, 3) := by decide +kernel
theorem dj24_3 : decode jc24 3 = .ok (.ifCond .eq 14, 3) := by decide +kernel
theorem dj24_6 : decode jc24 6 = .ok (.aload_n 0, 1) := by decide +kernel
theorem dj24_7 : decode jc24 7 = .ok (.getfield 22, 3) := by decide +kernel
theorem dj24_10 : decode jc24 10 = .ok (.ifCond .ne 7, 3) := by decide +kernel
theorem dj24_13 : decode jc24 13 = .ok (.iconst 1, 1) := by decide +kernel
theorem dj24_14 : decode jc24 14 = .ok (.goto 4, 3) := by decide +kernel
theorem dj24_18 : decode jc24 18 = .ok (.ireturn, 1) := by decide +kernel
theorem ef_ail1 (mi : MethodId) (b : Addr) : entryFrame mi #[(.ref b)] 1 = mkF mi 0 #[.val (.ref b)] [] := rfl
def Q_ail1 (Z : State) (b : Addr) (zc : Int32) (hE : Heap) (n0 : Nat) (vv : Option Value) (hh : Heap) (LL : List Loc) : Prop := (vv = some (.int 1)) ∧ (Fr n0 LL) ∧ (hh = hE)
theorem rm_ail1 (hw : HW a0 Z) (ws : List Cond) (b : Addr) (zc : Int32) (hE : Heap) (n0 : Nat) (O : Old Z n0 hE) (P0_ : Fld Z hE b c2_ "coder" "B" (.int 0)) (D0_ : Sta Z Z.heap c1_ c5_ "Z" (.int zc)) (hzc : ¬ (zc = (0 : Int32))) :
    MF la Z hE mn23 jc24 1 (some .boolean) ws (rr 0 0 0 0) #[(.ref b)] (Q_ail1 Z b zc hE n0) := by
  refine MetFree.of_bodySF (plainFor_of_name pn_java_lang_AbstractStringBuilder) hisR ?_
  intro pg ev sb mi gs below me cd s₁ Bd hml0 hPt hKt
  obtain ⟨rfl, hZ, hh⟩ := hPt
  have hx := Bd.exec
  have hby := Bd.bytes
  have hml : cd.maxLocals = 1 := hml0
  have hown : sb.vm.findClass c2_ = some mi.cls := findClass_of_methodNamed Bd.named
  have X0 : Stand pg la ev (rr 0 0 0 0) sb mi #[(.ref b)] below me cd s₁ [] 0 0 := Stand.of_body Bd
  have eE : s₁.heap = hE := by rw [← hh, Bd.state]; rfl
  have N0 := Fr.nil n0
  have pre0 : ∀ tt, SP pg ev below (s₁.setTop (mkF mi 0 #[.val (.ref b)] [])) tt → SP pg ev below (s₁.setTop (entryFrame mi #[(.ref b)] 1)) tt := fun tt kk => castTop (ef_ail1 mi b) kk
  obtain ⟨T101, X101, e101, st101⟩ := getS2 X0 hx hZ hown (host := "") (Or.inl (wd125 hw)) Via.refl eE (D0_.ext O.2) (g := (mkF mi 0 #[.val (.ref b)] [])) rfl (hb hby dj24_0)
  obtain ⟨T102, X102, e102, st102⟩ := getF X101 hx hZ hown (host := "") (Or.inl (wd128 hw)) Via.refl e101 P0_ (g := (mkF mi 7 #[.val (.ref b)] [(.ref b)])) rfl rfl (hb hby dj24_7)
  obtain ⟨fs, hr, hrun, hended, hW, hsame⟩ := X102.leave (v := some (.int 1)) (fun hq => by rw [Bd.returns] at hq; cases hq)
  refine ⟨_, _, pre0 _ ?_, hrun, hended, _, _, rfl, ?_, ⟨_, rfl⟩, hW, hsame.mono (by decide) (by decide)⟩
  · show SP pg ev below (s₁.setTop (mkF mi 0 #[.val (.ref b)] [])) _
    refine st101 _ ?_
    refine XS.ifNo X101.here hx rfl (hb hby dj24_3) rfl ((if0 _ _).trans (feq hzc).1) ?_
    refine XS.aloadN X101.here hx rfl (hb hby dj24_6) rfl rfl ?_
    refine st102 _ ?_
    refine XS.ifNo X102.here hx rfl (hb hby dj24_10) rfl ((if0 _ _).trans (teq (rfl : (0 : Int32) = (0 : Int32))).2) ?_
    refine XS.iconst X102.here hx rfl (hb hby dj24_13) ?_
    refine XS.goto X102.here hx rfl (pc0 := 14) (pc' := 18) rfl (hb hby dj24_14) (by decide) (by decide) ?_
    show SP pg ev below (T102.setTop (mkF mi 18 #[.val (.ref b)] [(.int 1)])) _
    exact retN X102 hx (t := .boolean) Bd.returns (by simp) (hb hby dj24_18) hr
  · show Q_ail1 Z b zc hE n0 _ T102.heap _
    rw [e102]
    exact ⟨rfl, N0, rfl⟩
theorem dj5_0 : decode jc5 0 = .ok (.iload_n 1, 1) := by decide +kernel
theorem dj5_1 : decode jc5 1 = .ok (.iload_n 0, 1) := by decide +kernel
theorem dj5_2 : decode jc5 2 = .ok (.if_icmp .ge 35, 3) := by decide +kernel
theorem dj5_37 : decode jc5 37 = .ok (.return_, 1) := by decide +kernel
theorem ef_ckl (mi : MethodId) (p : Int32) (q : Int32) : entryFrame mi #[(.int p), (.int q)] 2 = mkF mi 0 #[.val (.int p), .val (.int q)] [] := rfl
def Q_ckl (Z : State) (p q : Int32) (hE : Heap) (n0 : Nat) (vv : Option Value) (hh : Heap) (LL : List Loc) : Prop := (vv = none) ∧ (Fr n0 LL) ∧ (hh = hE)
theorem rm_ckl (hw : HW a0 Z) (ws : List Cond) (p q : Int32) (hE : Heap) (n0 : Nat) (O : Old Z n0 hE) (hpq : ¬ (q < p)) :
    MF la Z hE mn24 jc5 2 none ws (rr 0 0 0 0) #[(.int p), (.int q)] (Q_ckl Z p q hE n0) := by
  refine MetFree.of_bodySF (plainFor_of_name pn_java_util_Arrays) hisR ?_
  intro pg ev sb mi gs below me cd s₁ Bd hml0 hPt hKt
  obtain ⟨rfl, hZ, hh⟩ := hPt
  have hx := Bd.exec
  have hby := Bd.bytes
  have hml : cd.maxLocals = 2 := hml0
  have hown : sb.vm.findClass c11_ = some mi.cls := findClass_of_methodNamed Bd.named
  have X0 : Stand pg la ev (rr 0 0 0 0) sb mi #[(.int p), (.int q)] below me cd s₁ [] 0 0 := Stand.of_body Bd
  have eE : s₁.heap = hE := by rw [← hh, Bd.state]; rfl
  have N0 := Fr.nil n0
  have pre0 : ∀ tt, SP pg ev below (s₁.setTop (mkF mi 0 #[.val (.int p), .val (.int q)] [])) tt → SP pg ev below (s₁.setTop (entryFrame mi #[(.int p), (.int q)] 2)) tt := fun tt kk => castTop (ef_ckl mi p q) kk
  obtain ⟨fs, hr, hrun, hended, hW, hsame⟩ := X0.leave (v := none) (fun _ => rfl)
  refine ⟨_, _, pre0 _ ?_, hrun, hended, _, _, rfl, ?_, ⟨_, rfl⟩, hW, hsame.mono (by decide) (by decide)⟩
  · show SP pg ev below (s₁.setTop (mkF mi 0 #[.val (.int p), .val (.int q)] [])) _
    refine XS.iloadN X0.here hx rfl (hb hby dj5_0) rfl ?_
    refine XS.iloadN X0.here hx rfl (hb hby dj5_1) rfl ?_
    refine XS.icmpYes X0.here hx rfl (pc0 := 2) (pc' := 37) rfl (hb hby dj5_2) rfl (flt hpq).2.1 (by decide) (by decide) ?_
    show SP pg ev below (s₁.setTop (mkF mi 37 #[.val (.int p), .val (.int q)] [])) _
    exact X0.returnOut hx Bd.returns (hb hby dj5_37) hr
  · show Q_ckl Z p q hE n0 _ s₁.heap _
    rw [eE]
    exact ⟨rfl, N0, rfl⟩
theorem dj6_0 : decode jc6 0 = .ok (.iload_n 1, 1) := by decide +kernel
theorem dj6_1 : decode jc6 1 = .ok (.iload_n 2, 1) := by decide +kernel
theorem dj6_2 : decode jc6 2 = .ok (.invokestatic 343, 3) := by decide +kernel
theorem dj6_5 : decode jc6 5 = .ok (.iload_n 2, 1) := by decide +kernel
theorem dj6_6 : decode jc6 6 = .ok (.iload_n 1, 1) := by decide +kernel
theorem dj6_7 : decode jc6 7 = .ok (.isub, 1) := by decide +kernel
theorem dj6_8 : decode jc6 8 = .ok (.istore_n 3, 1) := by decide +kernel
theorem dj6_9 : decode jc6 9 = .ok (.iload_n 3, 1) := by decide +kernel
theorem dj6_10 : decode jc6 10 = .ok (.newarray .byte, 2) := by decide +kernel
theorem dj6_12 : decode jc6 12 = .ok (.astore 4, 2) := by decide +kernel
theorem dj6_14 : decode jc6 14 = .ok (.aload_n 0, 1) := by decide +kernel
theorem dj6_15 : decode jc6 15 = .ok (.iload_n 1, 1) := by decide +kernel
theorem dj6_16 : decode jc6 16 = .ok (.aload 4, 2) := by decide +kernel
theorem dj6_18 : decode jc6 18 = .ok (.iconst 0, 1) := by decide +kernel
theorem dj6_19 : decode jc6 19 = .ok (.aload_n 0, 1) := by decide +kernel
theorem dj6_20 : decode jc6 20 = .ok (.arraylength, 1) := by decide +kernel
theorem dj6_21 : decode jc6 21 = .ok (.iload_n 1, 1) := by decide +kernel
theorem dj6_22 : decode jc6 22 = .ok (.isub, 1) := by decide +kernel
theorem dj6_23 : decode jc6 23 = .ok (.iload_n 3, 1) := by decide +kernel
theorem dj6_24 : decode jc6 24 = .ok (.invokestatic 304, 3) := by decide +kernel
theorem dj6_27 : decode jc6 27 = .ok (.invokestatic 150, 3) := by decide +kernel
theorem dj6_30 : decode jc6 30 = .ok (.aload 4, 2) := by decide +kernel
theorem dj6_32 : decode jc6 32 = .ok (.areturn, 1) := by decide +kernel
theorem ef_crb (mi : MethodId) (t : Addr) (cs : List Int32) : entryFrame mi #[(.ref t), (.int 0), (.int (Int32.ofNat cs.length))] 5 = mkF mi 0 #[.val (.ref t), .val (.int 0), .val (.int (Int32.ofNat cs.length)), .unset, .unset] [] := rfl
def Q_crb (Z : State) (t : Addr) (kb : ClassId) (cap : Nat) (cs : List Int32) (hE : Heap) (n0 : Nat) (vv : Option Value) (hh : Heap) (LL : List Loc) : Prop := ∃ r : Addr, ∃ kr : ClassId, (vv = some (.ref r)) ∧ (Fr n0 LL) ∧ (Keep hE hh []) ∧ (hE.size ≤ r) ∧ (Arv Z hh r kr .byte (Int32.ofNat cs.length) (bys cs) (.int 0))
theorem rm_crb (hw : HW a0 Z) (ws : List Cond) (t : Addr) (kb : ClassId) (cap : Nat) (cs : List Int32) (hE : Heap) (n0 : Nat) (O : Old Z n0 hE) (P0_ : Arv Z hE t kb .byte (Int32.ofNat cap) (pads cap cs) (.int 0)) (hlc : cs.length < cap) (hcap : cap ≤ 120) :
    MF la Z hE mn25 jc6 5 (some (.array .byte)) ws (rr 1 1 120 18) #[(.ref t), (.int 0), (.int (Int32.ofNat cs.length))] (Q_crb Z t kb cap cs hE n0) := by
  refine MetFree.of_bodySF (plainFor_of_name pn_java_util_Arrays) hisR ?_
  intro pg ev sb mi gs below me cd s₁ Bd hml0 hPt hKt
  obtain ⟨rfl, hZ, hh⟩ := hPt
  have hx := Bd.exec
  have hby := Bd.bytes
  have hml : cd.maxLocals = 5 := hml0
  have hown : sb.vm.findClass c11_ = some mi.cls := findClass_of_methodNamed Bd.named
  have X0 : Stand pg la ev (rr 1 1 120 18) sb mi #[(.ref t), (.int 0), (.int (Int32.ofNat cs.length))] below me cd s₁ [] 0 0 := Stand.of_body Bd
  have eE : s₁.heap = hE := by rw [← hh, Bd.state]; rfl
  have N0 := Fr.nil n0
  have pre0 : ∀ tt, SP pg ev below (s₁.setTop (mkF mi 0 #[.val (.ref t), .val (.int 0), .val (.int (Int32.ofNat cs.length)), .unset, .unset] [])) tt → SP pg ev below (s₁.setTop (entryFrame mi #[(.ref t), (.int 0), (.int (Int32.ofNat cs.length))] 5)) tt := fun tt kk => castTop (ef_crb mi t cs) kk
  obtain ⟨v101, _, ⟨T101, L101, k101, n101⟩, -, X101, ⟨Lc101, hQ101, l101, y101, z101⟩, st101⟩ := Jvm.LawKit.callS X0 hx (y := mn24) hown (mvT hZ (wd215 hw)) (mvT hZ (wd216 hw)) (mvT hZ (wd210 hw)) (mvT hZ (wd217 hw)) (by decide) (backOf (W := 0) (rm_ckl la Z a0 hw [] (0 : Int32) (Int32.ofNat cs.length) hE n0 O (own_len_nn (by omega) : ¬ ((Int32.ofNat cs.length) < (0 : Int32)))) hZ (wd217 hw) (wd210 hw) (by decide) (by decide)) (g := (mkF mi 2 #[.val (.ref t), .val (.int 0), .val (.int (Int32.ofNat cs.length)), .unset, .unset] [(.int (Int32.ofNat cs.length)), (.int 0)])) rfl (by rw [hml]; rfl) (argsL := [(.int 0), (.int (Int32.ofNat cs.length))]) (rest := []) (lenOf pd_2 rfl) rfl (Nat.le_of_ble_eq_true rfl) (hb hby dj6_2) (fun _ _ => ⟨rfl, eE, (by decide : 0 + 0 ≤ _), (by decide : 0 + 0 ≤ _)⟩)
  dsimp only [Pt.U, Pt.locs, Pt.cells, Pt.slots] at X101 l101 y101 z101 st101 hQ101
  subst l101 y101 z101
  obtain ⟨rfl, Nq101, ek101⟩ := hQ101
  have N101 := Fr.app N0 Nq101
  have pre102 : ∀ tt, SP pg ev below (T101.setTop (mkF mi 8 #[.val (.ref t), .val (.int 0), .val (.int (Int32.ofNat cs.length)), .unset, .unset] [(.int ((Int32.ofNat cs.length) - (0 : Int32)))])) tt → SP pg ev below (s₁.setTop (entryFrame mi #[(.ref t), (.int 0), (.int (Int32.ofNat cs.length))] 5)) tt := fun tt kk => pre0 _ (by
    show SP pg ev below (s₁.setTop (mkF mi 0 #[.val (.ref t), .val (.int 0), .val (.int (Int32.ofNat cs.length)), .unset, .unset] [])) _
    refine XS.iloadN X0.here hx rfl (hb hby dj6_0) rfl ?_
    refine XS.iloadN X0.here hx rfl (hb hby dj6_1) rfl ?_
    refine st101 _ ?_
    refine XS.iloadN X101.here hx rfl (hb hby dj6_5) rfl ?_
    refine XS.iloadN X101.here hx rfl (hb hby dj6_6) rfl ?_
    refine XS.isub X101.here hx rfl (hb hby dj6_7) rfl ?_
    exact kk)
  have pre103 : ∀ tt, SP pg ev below (T101.setTop (mkF mi 8 #[.val (.ref t), .val (.int 0), .val (.int (Int32.ofNat cs.length)), .unset, .unset] [(.int (Int32.ofNat cs.length))])) tt → SP pg ev below (s₁.setTop (entryFrame mi #[(.ref t), (.int 0), (.int (Int32.ofNat cs.length))] 5)) tt := fun tt kk => pre102 tt (by rw [Int32.sub_zero]; exact kk)
  obtain ⟨T104, h104, k104, X104, e104, E104, A104, st104⟩ := newP (aty := .byte) X101 hx hZ (wd18 hw) ek101 (g := (mkF mi 10 #[.val (.ref t), .val (.int 0), .val (.int (Int32.ofNat cs.length)), .val (.int (Int32.ofNat cs.length)), .unset] [(.int (Int32.ofNat cs.length))])) rfl (hb hby dj6_10) rfl (own_len_nn (by omega)) (cap := 120) (by rw [own_n32 (by omega)]; omega) (by decide) (by decide) (by decide)
  obtain ⟨b104, q104⟩ : ∃ z, z = hE.size := ⟨_, rfl⟩
  rw [← q104] at A104 st104
  have f105 : Arv Z h104 b104 k104 .byte (Int32.ofNat cs.length) ([] ++ List.replicate (cs.length) (.int 0)) (.int 0) := (Arv.new A104 (own_len_nn (by omega))).pad (pad_rep [] (.int 0) (cs.length))
  have f106 : Arv Z h104 t kb .byte (Int32.ofNat cap) (pads cap cs) (.int 0) := (P0_.ext E104)
  obtain ⟨cl107, Ar107, -, Sz107, Nn107, -, -⟩ := id f106
  have pre108 : ∀ tt, SP pg ev below (T104.setTop (mkF mi 23 #[.val (.ref t), .val (.int 0), .val (.int (Int32.ofNat cs.length)), .val (.int (Int32.ofNat cs.length)), .val (.ref b104)] [(.int ((Int32.ofNat cap) - (0 : Int32))), (.int 0), (.ref b104), (.int 0), (.ref t)])) tt → SP pg ev below (s₁.setTop (entryFrame mi #[(.ref t), (.int 0), (.int (Int32.ofNat cs.length))] 5)) tt := fun tt kk => pre103 _ (by
    show SP pg ev below (T101.setTop (mkF mi 8 #[.val (.ref t), .val (.int 0), .val (.int (Int32.ofNat cs.length)), .unset, .unset] [(.int (Int32.ofNat cs.length))])) _
    refine XS.istoreN X101.here hx rfl (hb hby dj6_8) rfl (l' := #[.val (.ref t), .val (.int 0), .val (.int (Int32.ofNat cs.length)), .val (.int (Int32.ofNat cs.length)), .unset]) rfl ?_
    refine XS.iloadN X101.here hx rfl (hb hby dj6_9) rfl ?_
    refine st104 _ ?_
    refine XS.astore X104.here hx rfl (hb hby dj6_12) rfl rfl (l' := #[.val (.ref t), .val (.int 0), .val (.int (Int32.ofNat cs.length)), .val (.int (Int32.ofNat cs.length)), .val (.ref b104)]) rfl ?_
    refine XS.aloadN X104.here hx rfl (hb hby dj6_14) rfl rfl ?_
    refine XS.iloadN X104.here hx rfl (hb hby dj6_15) rfl ?_
    refine XS.aload X104.here hx rfl (hb hby dj6_16) rfl rfl ?_
    refine XS.iconst X104.here hx rfl (hb hby dj6_18) ?_
    refine XS.aloadN X104.here hx rfl (hb hby dj6_19) rfl rfl ?_
    refine X104.arraylength hx (cell := cl107) (by rw [e104]; exact Ar107.1) (State.isArrayOf_alike hZ.alike Ar107.2.1) (g := (mkF mi 20 #[.val (.ref t), .val (.int 0), .val (.int (Int32.ofNat cs.length)), .val (.int (Int32.ofNat cs.length)), .val (.ref b104)] [(.ref t), (.int 0), (.ref b104), (.int 0), (.ref t)])) rfl (rest := [(.int 0), (.ref b104), (.int 0), (.ref t)]) rfl (hb hby dj6_20) _ ?_
    rw [len_of Sz107 Nn107]
    refine XS.iloadN X104.here hx rfl (hb hby dj6_21) rfl ?_
    refine XS.isub X104.here hx rfl (hb hby dj6_22) rfl ?_
    exact kk)
  have pre109 : ∀ tt, SP pg ev below (T104.setTop (mkF mi 23 #[.val (.ref t), .val (.int 0), .val (.int (Int32.ofNat cs.length)), .val (.int (Int32.ofNat cs.length)), .val (.ref b104)] [(.int (Int32.ofNat cap)), (.int 0), (.ref b104), (.int 0), (.ref t)])) tt → SP pg ev below (s₁.setTop (entryFrame mi #[(.ref t), (.int 0), (.int (Int32.ofNat cs.length))] 5)) tt := fun tt kk => pre108 tt (by rw [Int32.sub_zero]; exact kk)
  have O110 : Old Z n0 h104 := (O.ext E104)
  obtain ⟨v111, _, ⟨T111, L111, k111, n111⟩, -, X111, ⟨Lc111, hQ111, l111, y111, z111⟩, st111⟩ := Jvm.LawKit.callS X104 hx (y := mn16) hown (mvT hZ (wd218 hw)) (mvT hZ (wd219 hw)) (mvT hZ (wd220 hw)) (mvT hZ (wd221 hw)) (by decide) (backOf (W := 4) (rm_mmin la Z a0 hw [] (Int32.ofNat cap) (Int32.ofNat cs.length) h104 n0 O110) hZ (wd221 hw) (wd220 hw) (by decide) (by decide)) (g := (mkF mi 24 #[.val (.ref t), .val (.int 0), .val (.int (Int32.ofNat cs.length)), .val (.int (Int32.ofNat cs.length)), .val (.ref b104)] [(.int (Int32.ofNat cs.length)), (.int (Int32.ofNat cap)), (.int 0), (.ref b104), (.int 0), (.ref t)])) rfl (by rw [hml]; rfl) (argsL := [(.int (Int32.ofNat cap)), (.int (Int32.ofNat cs.length))]) (rest := [(.int 0), (.ref b104), (.int 0), (.ref t)]) (lenOf pd_8 rfl) rfl (Nat.le_of_ble_eq_true rfl) (hb hby dj6_24) (fun _ _ => ⟨rfl, e104, (by decide : 1 + 0 ≤ _), (by decide : 120 + 0 ≤ _)⟩)
  dsimp only [Pt.U, Pt.locs, Pt.cells, Pt.slots] at X111 l111 y111 z111 st111 hQ111
  subst l111 y111 z111
  obtain ⟨rfl, Nq111, ek111⟩ := hQ111
  have N111 := Fr.app N101 Nq111
  have pre112 : ∀ tt, SP pg ev below (T111.setTop (mkF mi 27 #[.val (.ref t), .val (.int 0), .val (.int (Int32.ofNat cs.length)), .val (.int (Int32.ofNat cs.length)), .val (.ref b104)] [(.int (if (Int32.ofNat cs.length) < (Int32.ofNat cap) then (Int32.ofNat cs.length) else (Int32.ofNat cap))), (.int 0), (.ref b104), (.int 0), (.ref t)])) tt → SP pg ev below (s₁.setTop (entryFrame mi #[(.ref t), (.int 0), (.int (Int32.ofNat cs.length))] 5)) tt := fun tt kk => pre109 _ (by
    show SP pg ev below (T104.setTop (mkF mi 23 #[.val (.ref t), .val (.int 0), .val (.int (Int32.ofNat cs.length)), .val (.int (Int32.ofNat cs.length)), .val (.ref b104)] [(.int (Int32.ofNat cap)), (.int 0), (.ref b104), (.int 0), (.ref t)])) _
    refine XS.iloadN X104.here hx rfl (hb hby dj6_23) rfl ?_
    refine st111 _ ?_
    exact kk)
  have pre113 : ∀ tt, SP pg ev below (T111.setTop (mkF mi 27 #[.val (.ref t), .val (.int 0), .val (.int (Int32.ofNat cs.length)), .val (.int (Int32.ofNat cs.length)), .val (.ref b104)] [(.int (Int32.ofNat cs.length)), (.int 0), (.ref b104), (.int 0), (.ref t)])) tt → SP pg ev below (s₁.setTop (entryFrame mi #[(.ref t), (.int 0), (.int (Int32.ofNat cs.length))] 5)) tt := fun tt kk => pre112 tt (by rw [if_pos ((own_lt32 (by omega) (by omega)).mpr hlc)]; exact kk)
  have g_b104 : n0 ≤ b104 := Nat.le_trans (Nat.le_trans (Nat.le_of_eq O.1.symm) O.2.1) (Nat.le_of_eq q104.symm)
  obtain ⟨T114, h114, L114, X114, e114, N114, Kq114, V114, st114⟩ := cpA X111 hx hZ hown (wd222 hw) (wd172 hw) (wd170 hw) (wd171 hw) ek111 (us := ((pads cap cs).take cs.length)) f106 f105 (Or.inl ⟨rfl, rfl⟩) (by decide) (by decide) (own_len_nn (by omega)) (by rw [own_n32 (n := cs.length) (by omega), own_n32 (n := cap) (by omega)]; show 0 + cs.length ≤ cap; omega) (by rw [own_n32 (n := cs.length) (by omega)]; exact Nat.le_of_eq (Nat.zero_add _)) (by rw [own_n32 (n := cs.length) (by omega)]; exact own_us_take (by rw [own_pads_len (by omega)]; omega)) (by rw [own_n32 (n := cs.length) (by omega)]; simp) N111 g_b104 (g := (mkF mi 27 #[.val (.ref t), .val (.int 0), .val (.int (Int32.ofNat cs.length)), .val (.int (Int32.ofNat cs.length)), .val (.ref b104)] [(.int (Int32.ofNat cs.length)), (.int 0), (.ref b104), (.int 0), (.ref t)])) rfl (by rw [hml]; rfl) (rest := []) rfl (hb hby dj6_27) (by decide) (W := 0) (Nat.le_of_ble_eq_true rfl) (by decide)
  have f115 : Arv Z h114 b104 k104 .byte (Int32.ofNat cs.length) (bys cs) (.int 0) := by have hq := V114; rw [own_n32 (n := cs.length) (by omega), show (0 : Int32).toNatClampNeg = 0 from rfl, own_pads_cut (by omega)] at hq; exact hq
  obtain ⟨fs, hr, hrun, hended, hW, hsame⟩ := X114.leave (v := some (.ref b104)) (fun hq => by rw [Bd.returns] at hq; cases hq)
  refine ⟨_, _, pre113 _ ?_, hrun, hended, _, _, rfl, ?_, ⟨_, rfl⟩, hW, hsame.mono (by decide) (by decide)⟩
  · show SP pg ev below (T111.setTop (mkF mi 27 #[.val (.ref t), .val (.int 0), .val (.int (Int32.ofNat cs.length)), .val (.int (Int32.ofNat cs.length)), .val (.ref b104)] [(.int (Int32.ofNat cs.length)), (.int 0), (.ref b104), (.int 0), (.ref t)])) _
    refine st114 _ ?_
    refine XS.aload X114.here hx rfl (hb hby dj6_30) rfl rfl ?_
    show SP pg ev below (T114.setTop (mkF mi 32 #[.val (.ref t), .val (.int 0), .val (.int (Int32.ofNat cs.length)), .val (.int (Int32.ofNat cs.length)), .val (.ref b104)] [(.ref b104)])) _
    jvm_step X114.here [X114.here.top, hx, (hb hby dj6_32), X114.method', Bd.returns, Value.isRef, FieldType.isReference]
    first | (intro acts; rw [hr _ acts rfl rfl rfl]) | rw [hr _ _ rfl rfl rfl]
    exact Steps.refl _
  · show Q_crb Z t kb cap cs hE n0 _ T114.heap _
    rw [e114]
    exact ⟨b104, k104, rfl, N114, (((Keep.refl hE []).ext E104).trans Kq114 (allS (Or.inr (Nat.le_of_eq q104.symm)) all0)), (Nat.le_of_eq q104.symm), f115⟩
theorem dj7_0 : decode jc7 0 = .ok (.iload_n 1, 1) := by decide +kernel
theorem dj7_1 : decode jc7 1 = .ok (.ifCond .ne 9, 3) := by decide +kernel
theorem dj7_4 : decode jc7 4 = .ok (.iload_n 2, 1) := by decide +kernel
theorem dj7_5 : decode jc7 5 = .ok (.aload_n 0, 1) := by decide +kernel
theorem dj7_6 : decode jc7 6 = .ok (.arraylength, 1) := by decide +kernel
theorem dj7_7 : decode jc7 7 = .ok (.if_icmp .eq 10, 3) := by decide +kernel
theorem dj7_10 : decode jc7 10 = .ok (.aload_n 0, 1) := by decide +kernel
theorem dj7_11 : decode jc7 11 = .ok (.iload_n 1, 1) := by decide +kernel
theorem dj7_12 : decode jc7 12 = .ok (.iload_n 2, 1) := by decide +kernel
theorem dj7_13 : decode jc7 13 = .ok (.invokestatic 339, 3) := by decide +kernel
theorem dj7_16 : decode jc7 16 = .ok (.areturn, 1) := by decide +kernel
theorem pd_15 : parseMethodDescriptor "([BII)[B" = some ⟨[(.array .byte), .int, .int], some (.array .byte)⟩ := by decide +kernel
theorem ef_crc (mi : MethodId) (t : Addr) (cs : List Int32) : entryFrame mi #[(.ref t), (.int 0), (.int (Int32.ofNat cs.length))] 3 = mkF mi 0 #[.val (.ref t), .val (.int 0), .val (.int (Int32.ofNat cs.length))] [] := rfl
def Q_crc (Z : State) (t : Addr) (kb : ClassId) (cap : Nat) (cs : List Int32) (hE : Heap) (n0 : Nat) (vv : Option Value) (hh : Heap) (LL : List Loc) : Prop := ∃ r : Addr, ∃ kr : ClassId, (vv = some (.ref r)) ∧ (Fr n0 LL) ∧ (Keep hE hh []) ∧ (hE.size ≤ r) ∧ (Arv Z hh r kr .byte (Int32.ofNat cs.length) (bys cs) (.int 0))
theorem rm_crc (hw : HW a0 Z) (ws : List Cond) (t : Addr) (kb : ClassId) (cap : Nat) (cs : List Int32) (hE : Heap) (n0 : Nat) (O : Old Z n0 hE) (P0_ : Arv Z hE t kb .byte (Int32.ofNat cap) (pads cap cs) (.int 0)) (hlc : cs.length < cap) (hcap : cap ≤ 120) :
    MF la Z hE mn26 jc7 3 (some (.array .byte)) ws (rr 2 1 120 34) #[(.ref t), (.int 0), (.int (Int32.ofNat cs.length))] (Q_crc Z t kb cap cs hE n0) := by
  refine MetFree.of_bodySF (plainFor_of_name pn_java_util_Arrays) hisR ?_
  intro pg ev sb mi gs below me cd s₁ Bd hml0 hPt hKt
  obtain ⟨rfl, hZ, hh⟩ := hPt
  have hx := Bd.exec
  have hby := Bd.bytes
  have hml : cd.maxLocals = 3 := hml0
  have hown : sb.vm.findClass c11_ = some mi.cls := findClass_of_methodNamed Bd.named
  have X0 : Stand pg la ev (rr 2 1 120 34) sb mi #[(.ref t), (.int 0), (.int (Int32.ofNat cs.length))] below me cd s₁ [] 0 0 := Stand.of_body Bd
  have eE : s₁.heap = hE := by rw [← hh, Bd.state]; rfl
  have N0 := Fr.nil n0
  have pre0 : ∀ tt, SP pg ev below (s₁.setTop (mkF mi 0 #[.val (.ref t), .val (.int 0), .val (.int (Int32.ofNat cs.length))] [])) tt → SP pg ev below (s₁.setTop (entryFrame mi #[(.ref t), (.int 0), (.int (Int32.ofNat cs.length))] 3)) tt := fun tt kk => castTop (ef_crc mi t cs) kk
  obtain ⟨cl101, Ar101, -, Sz101, Nn101, -, -⟩ := id P0_
  obtain ⟨v102, _, ⟨T102, L102, k102, n102⟩, -, X102, ⟨Lc102, hQ102, l102, y102, z102⟩, st102⟩ := Jvm.LawKit.callS X0 hx (y := mn25) hown (mvT hZ (wd212 hw)) (mvT hZ (wd213 hw)) (mvT hZ (wd210 hw)) (mvT hZ (wd214 hw)) (by decide) (backOf (W := 0) (rm_crb la Z a0 hw [] t kb cap cs hE n0 O P0_ (hlc : cs.length < cap) (hcap : cap ≤ 120)) hZ (wd214 hw) (wd210 hw) (by decide) (by decide)) (g := (mkF mi 13 #[.val (.ref t), .val (.int 0), .val (.int (Int32.ofNat cs.length))] [(.int (Int32.ofNat cs.length)), (.int 0), (.ref t)])) rfl (by rw [hml]; rfl) (argsL := [(.ref t), (.int 0), (.int (Int32.ofNat cs.length))]) (rest := []) (lenOf pd_15 rfl) rfl (Nat.le_of_ble_eq_true rfl) (hb hby dj7_13) (fun _ _ => ⟨rfl, eE, (by decide : 0 + 1 ≤ _), (by decide : 0 + 120 ≤ _)⟩)
  dsimp only [Pt.U, Pt.locs, Pt.cells, Pt.slots] at X102 l102 y102 z102 st102 hQ102
  subst l102 y102 z102
  obtain ⟨r_102, kr_102, rfl, Nq102, Kq102, fr_r_102, r102_0⟩ := hQ102
  have N102 := Fr.app N0 Nq102
  obtain ⟨fs, hr, hrun, hended, hW, hsame⟩ := X102.leave (v := some (.ref r_102)) (fun hq => by rw [Bd.returns] at hq; cases hq)
  refine ⟨_, _, pre0 _ ?_, hrun, hended, _, _, rfl, ?_, ⟨_, rfl⟩, hW, hsame.mono (by decide) (by decide)⟩
  · show SP pg ev below (s₁.setTop (mkF mi 0 #[.val (.ref t), .val (.int 0), .val (.int (Int32.ofNat cs.length))] [])) _
    refine XS.iloadN X0.here hx rfl (hb hby dj7_0) rfl ?_
    refine XS.ifNo X0.here hx rfl (hb hby dj7_1) rfl ((if0 _ _).trans (teq (rfl : (0 : Int32) = (0 : Int32))).2) ?_
    refine XS.iloadN X0.here hx rfl (hb hby dj7_4) rfl ?_
    refine XS.aloadN X0.here hx rfl (hb hby dj7_5) rfl rfl ?_
    refine X0.arraylength hx (cell := cl101) (by rw [eE]; exact Ar101.1) (State.isArrayOf_alike hZ.alike Ar101.2.1) (g := (mkF mi 6 #[.val (.ref t), .val (.int 0), .val (.int (Int32.ofNat cs.length))] [(.ref t), (.int (Int32.ofNat cs.length))])) rfl (rest := [(.int (Int32.ofNat cs.length))]) rfl (hb hby dj7_6) _ ?_
    rw [len_of Sz101 Nn101]
    refine XS.icmpNo X0.here hx rfl (hb hby dj7_7) rfl (feq (fun q => absurd ((own_eq32 (by omega) (by omega)).mp q) (by omega))).1 ?_
    refine XS.aloadN X0.here hx rfl (hb hby dj7_10) rfl rfl ?_
    refine XS.iloadN X0.here hx rfl (hb hby dj7_11) rfl ?_
    refine XS.iloadN X0.here hx rfl (hb hby dj7_12) rfl ?_
    refine st102 _ ?_
    show SP pg ev below (T102.setTop (mkF mi 16 #[.val (.ref t), .val (.int 0), .val (.int (Int32.ofNat cs.length))] [(.ref r_102)])) _
    jvm_step X102.here [X102.here.top, hx, (hb hby dj7_16), X102.method', Bd.returns, Value.isRef, FieldType.isReference]
    first | (intro acts; rw [hr _ acts rfl rfl rfl]) | rw [hr _ _ rfl rfl rfl]
    exact Steps.refl _
  · show Q_crc Z t kb cap cs hE n0 _ T102.heap _
    exact ⟨r_102, kr_102, rfl, N102, ((Keep.refl hE []).trans Kq102 all0), fr_r_102, r102_0⟩
theorem dj7_17 : decode jc7 17 = .ok (.aload_n 0, 1) := by decide +kernel
theorem dj7_18 : decode jc7 18 = .ok (.invokevirtual 310, 3) := by decide +kernel
theorem dj7_21 : decode jc7 21 = .ok (.checkcast 311, 3) := by decide +kernel
theorem dj7_24 : decode jc7 24 = .ok (.areturn, 1) := by decide +kernel
theorem ef_crf (mi : MethodId) (t : Addr) (cs : List Int32) : entryFrame mi #[(.ref t), (.int 0), (.int (Int32.ofNat cs.length))] 3 = mkF mi 0 #[.val (.ref t), .val (.int 0), .val (.int (Int32.ofNat cs.length))] [] := rfl
def Q_crf (Z : State) (t : Addr) (kb : ClassId) (cap : Nat) (cs : List Int32) (hE : Heap) (n0 : Nat) (vv : Option Value) (hh : Heap) (LL : List Loc) : Prop := ∃ r : Addr, ∃ kr : ClassId, (vv = some (.ref r)) ∧ (Fr n0 LL) ∧ (Keep hE hh []) ∧ (hE.size ≤ r) ∧ (Arv Z hh r kr .byte (Int32.ofNat cs.length) (bys cs) (.int 0))
theorem rm_crf (hw : HW a0 Z) (ws : List Cond) (t : Addr) (kb : ClassId) (cap : Nat) (cs : List Int32) (hE : Heap) (n0 : Nat) (O : Old Z n0 hE) (P0_ : Arv Z hE t kb .byte (Int32.ofNat cap) (pads cap cs) (.int 0)) (P1_ : Exa Z hE t "[B") (hlc : cs.length = cap) (hcap : cap ≤ 120) :
    MF la Z hE mn26 jc7 3 (some (.array .byte)) ws (rr 1 1 120 14) #[(.ref t), (.int 0), (.int (Int32.ofNat cs.length))] (Q_crf Z t kb cap cs hE n0) := by
  refine MetFree.of_bodySF (plainFor_of_name pn_java_util_Arrays) hisR ?_
  intro pg ev sb mi gs below me cd s₁ Bd hml0 hPt hKt
  obtain ⟨rfl, hZ, hh⟩ := hPt
  have hx := Bd.exec
  have hby := Bd.bytes
  have hml : cd.maxLocals = 3 := hml0
  have hown : sb.vm.findClass c11_ = some mi.cls := findClass_of_methodNamed Bd.named
  have X0 : Stand pg la ev (rr 1 1 120 14) sb mi #[(.ref t), (.int 0), (.int (Int32.ofNat cs.length))] below me cd s₁ [] 0 0 := Stand.of_body Bd
  have eE : s₁.heap = hE := by rw [← hh, Bd.state]; rfl
  have N0 := Fr.nil n0
  have pre0 : ∀ tt, SP pg ev below (s₁.setTop (mkF mi 0 #[.val (.ref t), .val (.int 0), .val (.int (Int32.ofNat cs.length))] [])) tt → SP pg ev below (s₁.setTop (entryFrame mi #[(.ref t), (.int 0), (.int (Int32.ofNat cs.length))] 3)) tt := fun tt kk => castTop (ef_crf mi t cs) kk
  obtain ⟨cl101, Ar101, -, Sz101, Nn101, -, -⟩ := id P0_
  obtain ⟨T102, h102, X102, e102, E102, V102, B102, st102⟩ := cloneH X0 hx hZ hown (ad := "[B") (wd261 hw) (wd262 hw) (wd266 hw) (wd264 hw) (wd265 hw) (wd267 hw) eE P0_.arh P1_ (g := (mkF mi 18 #[.val (.ref t), .val (.int 0), .val (.int (Int32.ofNat cs.length))] [(.ref t)])) rfl (by rw [hml]; rfl) (rest := []) rfl (hb hby dj7_18) (by decide) (W := 0) (cap := 120) (Nat.le_of_ble_eq_true rfl) (by decide) (by rw [own_n32 (by omega)]; omega) (by decide) (by decide)
  obtain ⟨b102, q102⟩ : ∃ z, z = hE.size := ⟨_, rfl⟩
  rw [← q102] at V102 B102 st102
  have f103 : Arv Z h102 b102 kb .byte (Int32.ofNat cs.length) (bys cs) (.int 0) := by have hq : Arv _ _ _ _ _ _ _ _ := V102; rw [own_pads_full hlc, ← hlc] at hq; exact hq
  obtain ⟨T104, X104, e104, st104⟩ := castY X102 hx hZ hown (wd268 hw) e102 (Ins.self B102) (g := (mkF mi 21 #[.val (.ref t), .val (.int 0), .val (.int (Int32.ofNat cs.length))] [(.ref b102)])) rfl rfl (hb hby dj7_21)
  obtain ⟨fs, hr, hrun, hended, hW, hsame⟩ := X104.leave (v := some (.ref b102)) (fun hq => by rw [Bd.returns] at hq; cases hq)
  refine ⟨_, _, pre0 _ ?_, hrun, hended, _, _, rfl, ?_, ⟨_, rfl⟩, hW, hsame.mono (by decide) (by decide)⟩
  · show SP pg ev below (s₁.setTop (mkF mi 0 #[.val (.ref t), .val (.int 0), .val (.int (Int32.ofNat cs.length))] [])) _
    refine XS.iloadN X0.here hx rfl (hb hby dj7_0) rfl ?_
    refine XS.ifNo X0.here hx rfl (hb hby dj7_1) rfl ((if0 _ _).trans (teq (rfl : (0 : Int32) = (0 : Int32))).2) ?_
    refine XS.iloadN X0.here hx rfl (hb hby dj7_4) rfl ?_
    refine XS.aloadN X0.here hx rfl (hb hby dj7_5) rfl rfl ?_
    refine X0.arraylength hx (cell := cl101) (by rw [eE]; exact Ar101.1) (State.isArrayOf_alike hZ.alike Ar101.2.1) (g := (mkF mi 6 #[.val (.ref t), .val (.int 0), .val (.int (Int32.ofNat cs.length))] [(.ref t), (.int (Int32.ofNat cs.length))])) rfl (rest := [(.int (Int32.ofNat cs.length))]) rfl (hb hby dj7_6) _ ?_
    rw [len_of Sz101 Nn101]
    refine XS.icmpYes X0.here hx rfl (pc0 := 7) (pc' := 17) rfl (hb hby dj7_7) rfl (teq ((own_eq32 (by omega) (by omega)).mpr hlc)).1 (by decide) (by decide) ?_
    refine XS.aloadN X0.here hx rfl (hb hby dj7_17) rfl rfl ?_
    refine st102 _ ?_
    refine st104 _ ?_
    show SP pg ev below (T104.setTop (mkF mi 24 #[.val (.ref t), .val (.int 0), .val (.int (Int32.ofNat cs.length))] [(.ref b102)])) _
    jvm_step X104.here [X104.here.top, hx, (hb hby dj7_24), X104.method', Bd.returns, Value.isRef, FieldType.isReference]
    first | (intro acts; rw [hr _ acts rfl rfl rfl]) | rw [hr _ _ rfl rfl rfl]
    exact Steps.refl _
  · show Q_crf Z t kb cap cs hE n0 _ T104.heap _
    rw [e104]
    exact ⟨b102, kb, rfl, N0, ((Keep.refl hE []).ext E102), (Nat.le_of_eq q102.symm), f103⟩
theorem dj8_0 : decode jc8 0 = .ok (.aload_n 0, 1) := by decide +kernel
theorem dj8_1 : decode jc8 1 = .ok (.invokespecial 1, 3) := by decide +kernel
theorem dj8_4 : decode jc8 4 = .ok (.aload_n 1, 1) := by decide +kernel
theorem dj8_5 : decode jc8 5 = .ok (.invokevirtual 552, 3) := by decide +kernel
theorem dj8_8 : decode jc8 8 = .ok (.astore_n 3, 1) := by decide +kernel
theorem dj8_9 : decode jc8 9 = .ok (.aload_n 1, 1) := by decide +kernel
theorem dj8_10 : decode jc8 10 = .ok (.invokevirtual 549, 3) := by decide +kernel
theorem dj8_13 : decode jc8 13 = .ok (.istore 4, 2) := by decide +kernel
theorem dj8_15 : decode jc8 15 = .ok (.aload_n 1, 1) := by decide +kernel
theorem dj8_16 : decode jc8 16 = .ok (.invokevirtual 1047, 3) := by decide +kernel
theorem dj8_19 : decode jc8 19 = .ok (.ifCond .eq 22, 3) := by decide +kernel
theorem dj8_22 : decode jc8 22 = .ok (.aload_n 0, 1) := by decide +kernel
theorem dj8_23 : decode jc8 23 = .ok (.iconst 0, 1) := by decide +kernel
theorem dj8_24 : decode jc8 24 = .ok (.putfield 15, 3) := by decide +kernel
theorem dj8_27 : decode jc8 27 = .ok (.aload_n 0, 1) := by decide +kernel
theorem dj8_28 : decode jc8 28 = .ok (.aload_n 3, 1) := by decide +kernel
theorem dj8_29 : decode jc8 29 = .ok (.iconst 0, 1) := by decide +kernel
theorem dj8_30 : decode jc8 30 = .ok (.iload 4, 2) := by decide +kernel
theorem dj8_32 : decode jc8 32 = .ok (.invokestatic 54, 3) := by decide +kernel
theorem dj8_35 : decode jc8 35 = .ok (.putfield 9, 3) := by decide +kernel
theorem dj8_38 : decode jc8 38 = .ok (.goto 59, 3) := by decide +kernel
theorem dj8_97 : decode jc8 97 = .ok (.return_, 1) := by decide +kernel
theorem pd_16 : parseMethodDescriptor "()[B" = some ⟨[], some (.array .byte)⟩ := by decide +kernel
theorem ef_sia_cut (mi : MethodId) (x : Addr) (b : Addr) : entryFrame mi #[(.ref x), (.ref b), .null] 5 = mkF mi 0 #[.val (.ref x), .val (.ref b), .val .null, .unset, .unset] [] := rfl
def Q_sia_cut (Z : State) (x b t : Addr) (cap : Nat) (cs : List Int32) (zc : Int32) (hE : Heap) (n0 : Nat) (vv : Option Value) (hh : Heap) (LL : List Loc) : Prop := ∃ r : Addr, (vv = none) ∧ (Fr n0 LL) ∧ (Keep hE hh [x]) ∧ (hE.size ≤ r) ∧ (LStr Z hh x r cs)
theorem rm_sia_cut (hw : HW a0 Z) (ws : List Cond) (x b t : Addr) (cap : Nat) (cs : List Int32) (zc : Int32) (hE : Heap) (n0 : Nat) (O : Old Z n0 hE) (P0_ : Exa Z hE x c1_) (P1_ : Fld Z hE x c1_ "value" "[B" .null) (P2_ : Fld Z hE x c1_ "coder" "B" (.int 0)) (P3_ : SBl Z hE b t cap cs) (D0_ : Sta Z Z.heap c1_ c5_ "Z" (.int zc)) (g_x : n0 ≤ x) (ne_b_x : b ≠ x) (ne_t_x : t ≠ x) (hlc : cs.length < cap) (hzc : ¬ (zc = (0 : Int32))) :
    MF la Z hE mn27 jc8 5 none ws (rr 3 1 120 49) #[(.ref x), (.ref b), .null] (Q_sia_cut Z x b t cap cs zc hE n0) := by
  refine MetFree.of_bodySF (plainFor_of_name pn_java_lang_String) hisR ?_
  intro pg ev sb mi gs below me cd s₁ Bd hml0 hPt hKt
  obtain ⟨rfl, hZ, hh⟩ := hPt
  have hx := Bd.exec
  have hby := Bd.bytes
  have hml : cd.maxLocals = 5 := hml0
  have hown : sb.vm.findClass c1_ = some mi.cls := findClass_of_methodNamed Bd.named
  have hnm := (name_of_methodNamed Bd.named Bd.method).1
  have X0 : Stand pg la ev (rr 3 1 120 49) sb mi #[(.ref x), (.ref b), .null] below me cd s₁ [] 0 0 := Stand.of_body Bd
  have eE : s₁.heap = hE := by rw [← hh, Bd.state]; rfl
  have N0 := Fr.nil n0
  have pre0 : ∀ tt, SP pg ev below (s₁.setTop (mkF mi 0 #[.val (.ref x), .val (.ref b), .val .null, .unset, .unset] [])) tt → SP pg ev below (s₁.setTop (entryFrame mi #[(.ref x), (.ref b), .null] 5)) tt := fun tt kk => castTop (ef_sia_cut mi x b) kk
  obtain ⟨T101, X101, e101, st101⟩ := initO X0 hx hZ hown (wd23 hw) (wd24 hw) (wd25 hw) eE (g := (mkF mi 1 #[.val (.ref x), .val (.ref b), .val .null, .unset, .unset] [(.ref x)])) rfl (by rw [hml]; rfl) rfl (hb hby dj8_1) (by decide) (W := 0) (Nat.le_of_ble_eq_true rfl) (by decide)
  obtain ⟨bE102, bV102, bC102, bN102, ⟨kb102, bK102⟩, bX102, bb102, bl102, bm102⟩ := id P3_
  obtain ⟨cq103, kq103, q103a, q103b, q103c⟩ := isOf hZ e101 bE102
  obtain ⟨v103, _, ⟨T103, L103, k103, n103⟩, -, X103, ⟨Lc103, hQ103, l103, y103, z103⟩, st103⟩ := X101.virtualBack hx (y := mn20) (z := mn20) hown (mvT hZ (wd190 hw)) (mvT hZ (wd191 hw)) (notFace_of_selects (args := #[]) (mvT hZ (wd193 hw))) (mvT hZ (wd193 hw)) (mvT hZ (wd192 hw)) (by decide) (backOf (W := 0) (rm_agv la Z a0 hw [] b t hE n0 O bV102) hZ (wd194 hw) (wd122 hw) (by decide) (by decide)) q103a q103c (g := (mkF mi 5 #[.val (.ref x), .val (.ref b), .val .null, .unset, .unset] [(.ref b)])) rfl (by rw [hml]; rfl) (Steps.refl _) (argsL := []) (rest := []) (lenOf pd_16 rfl) rfl (Nat.le_of_ble_eq_true rfl) (hb hby dj8_5) (fun _ _ => ⟨rfl, e101, (by decide : 0 + 0 ≤ _), (by decide : 0 + 0 ≤ _)⟩)
  dsimp only [Pt.U, Pt.locs, Pt.cells, Pt.slots] at X103 l103 y103 z103 st103 hQ103
  subst l103 y103 z103
  obtain ⟨rfl, Nq103, ek103⟩ := hQ103
  have N103 := Fr.app N0 Nq103
  obtain ⟨cq104, kq104, q104a, q104b, q104c⟩ := isOf hZ ek103 bE102
  obtain ⟨v104, _, ⟨T104, L104, k104, n104⟩, -, X104, ⟨Lc104, hQ104, l104, y104, z104⟩, st104⟩ := X103.virtualBack hx (y := mn21) (z := mn22) hown (mvT hZ (wd195 hw)) (mvT hZ (wd196 hw)) (own_nf (args := #[]) (mvT hZ (wd151 hw)) rfl) (mvT hZ (wd198 hw)) (mvT hZ (wd199 hw)) (by decide) (backOf (W := 0) (rm_sbl la Z a0 hw [] b (Int32.ofNat cs.length) hE n0 O bE102 bN102) hZ (wd200 hw) (wd114 hw) (by decide) (by decide)) q104a q104c (g := (mkF mi 10 #[.val (.ref x), .val (.ref b), .val .null, .val (.ref t), .unset] [(.ref b)])) rfl (by rw [hml]; rfl) (Steps.refl _) (argsL := []) (rest := []) (lenOf pd_12 rfl) rfl (Nat.le_of_ble_eq_true rfl) (hb hby dj8_10) (fun _ _ => ⟨rfl, ek103, (by decide : 0 + 0 ≤ _), (by decide : 0 + 0 ≤ _)⟩)
  dsimp only [Pt.U, Pt.locs, Pt.cells, Pt.slots] at X104 l104 y104 z104 st104 hQ104
  subst l104 y104 z104
  obtain ⟨rfl, Nq104, ek104⟩ := hQ104
  have N104 := Fr.app N103 Nq104
  obtain ⟨cq105, kq105, q105a, q105b, q105c⟩ := isOf hZ ek104 bE102
  obtain ⟨v105, _, ⟨T105, L105, k105, n105⟩, -, X105, ⟨Lc105, hQ105, l105, y105, z105⟩, st105⟩ := X104.virtualBack hx (y := mn23) (z := mn23) hown (mvT hZ (wd203 hw)) (mvT hZ (wd204 hw)) (notFace_of_selects (args := #[]) (mvT hZ (wd206 hw))) (mvT hZ (wd206 hw)) (mvT hZ (wd205 hw)) (by decide) (backOf (W := 0) (rm_ail1 la Z a0 hw [] b zc hE n0 O bC102 D0_ (hzc : ¬ (zc = (0 : Int32)))) hZ (wd207 hw) (wd122 hw) (by decide) (by decide)) q105a q105c (g := (mkF mi 16 #[.val (.ref x), .val (.ref b), .val .null, .val (.ref t), .val (.int (Int32.ofNat cs.length))] [(.ref b)])) rfl (by rw [hml]; rfl) (Steps.refl _) (argsL := []) (rest := []) (lenOf pd_3 rfl) rfl (Nat.le_of_ble_eq_true rfl) (hb hby dj8_16) (fun _ _ => ⟨rfl, ek104, (by decide : 0 + 0 ≤ _), (by decide : 0 + 0 ≤ _)⟩)
  dsimp only [Pt.U, Pt.locs, Pt.cells, Pt.slots] at X105 l105 y105 z105 st105 hQ105
  subst l105 y105 z105
  obtain ⟨rfl, Nq105, ek105⟩ := hQ105
  have N105 := Fr.app N104 Nq105
  obtain ⟨T106, h106, X106, e106, W106, st106⟩ := putFN X105 hx hZ hown (wd28 hw) Via.refl ek105 P2_ P0_ (Or.inr ⟨(wd29 hw), rfl, hnm⟩) (wd14 hw) (ty := .byte) (v' := (.int 0)) (by decide) rfl rfl (g := (mkF mi 24 #[.val (.ref x), .val (.ref b), .val .null, .val (.ref t), .val (.int (Int32.ofNat cs.length))] [(.int 0), (.ref x)])) rfl rfl (hb hby dj8_24)
  have N106 := Fr.snoc X106 N105 g_x
  have f107 : Fld Z h106 x c1_ "coder" "B" (.int 0) := P2_.same W106
  have O108 : Old Z n0 h106 := (O.keep (Keep.of_wr W106) (allS g_x all0))
  have f109 : Arv Z h106 t kb102 .byte (Int32.ofNat cap) (pads cap cs) (.int 0) := (bK102.keep (Keep.of_wr W106) (ninS ne_t_x nin0))
  obtain ⟨v110, _, ⟨T110, L110, k110, n110⟩, -, X110, ⟨Lc110, hQ110, l110, y110, z110⟩, st110⟩ := Jvm.LawKit.callS X106 hx (y := mn26) hown (mvT hZ (wd208 hw)) (mvT hZ (wd209 hw)) (mvT hZ (wd210 hw)) (mvT hZ (wd211 hw)) (by decide) (backOf (W := 1) (rm_crc la Z a0 hw [] t kb102 cap cs h106 n0 O108 f109 (hlc : cs.length < cap) (bm102 : cap ≤ 120)) hZ (wd211 hw) (wd210 hw) (by decide) (by decide)) (g := (mkF mi 32 #[.val (.ref x), .val (.ref b), .val .null, .val (.ref t), .val (.int (Int32.ofNat cs.length))] [(.int (Int32.ofNat cs.length)), (.int 0), (.ref t), (.ref x)])) rfl (by rw [hml]; rfl) (argsL := [(.ref t), (.int 0), (.int (Int32.ofNat cs.length))]) (rest := [(.ref x)]) (lenOf pd_15 rfl) rfl (Nat.le_of_ble_eq_true rfl) (hb hby dj8_32) (fun _ _ => ⟨rfl, e106, (by decide : 0 + 1 ≤ _), (by decide : 0 + 120 ≤ _)⟩)
  dsimp only [Pt.U, Pt.locs, Pt.cells, Pt.slots] at X110 l110 y110 z110 st110 hQ110
  subst l110 y110 z110
  obtain ⟨r_110, kr_110, rfl, Nq110, Kq110, fr_r_110, r110_0⟩ := hQ110
  have N110 := Fr.app N106 Nq110
  have f111 : Exa Z T110.heap x c1_ := ((P0_.keep (Keep.of_wr W106)).keep Kq110)
  have f112 : Fld Z T110.heap x c1_ "value" "[B" .null := ((P1_.other W106 (Or.inr (slot_ne (Or.inr (wd27 hw)) (Or.inr (wd29 hw)) (by decide) (t := (.array .byte)) (t' := .byte) (by decide) (by decide)))).keep Kq110 nin0)
  obtain ⟨T113, h113, X113, e113, W113, st113⟩ := putF X110 hx hZ hown (host := "") (Or.inl (wd26 hw)) Via.refl rfl f112 f111 (Or.inr ⟨(wd27 hw), rfl, hnm⟩) (wd14 hw) (ty := (.array .byte)) (by decide) rfl rfl (g := (mkF mi 35 #[.val (.ref x), .val (.ref b), .val .null, .val (.ref t), .val (.int (Int32.ofNat cs.length))] [(.ref r_110), (.ref x)])) rfl rfl (hb hby dj8_35)
  have N113 := Fr.snoc X113 N110 g_x
  have f114 : Fld Z h113 x c1_ "value" "[B" (.ref r_110) := f112.same W113
  have f116 : Exa Z h113 x c1_ := (f111.keep (Keep.of_wr W113))
  have f117 : Fld Z h113 x c1_ "coder" "B" (.int 0) := ((f107.keep Kq110 nin0).other W113 (Or.inr (slot_ne (Or.inr (wd29 hw)) (Or.inr (wd27 hw)) (by decide) (t := .byte) (t' := (.array .byte)) (by decide) (by decide))))
  have ne_x_r_110 : x ≠ r_110 := Nat.ne_of_lt (Nat.lt_of_lt_of_le P0_.lt (Nat.le_trans (Keep.of_wr W106).1 fr_r_110))
  have f118 : Arv Z h113 r_110 kr_110 .byte (Int32.ofNat cs.length) (bys cs) (.int 0) := (r110_0.keep (Keep.of_wr W113) (ninS (Ne.symm ne_x_r_110) nin0))
  have s115 : LStr Z h113 x r_110 cs := ⟨f116, f114, f117, ⟨_, f118⟩, bb102, (by have := bl102; have := bm102; omega)⟩
  obtain ⟨fs, hr, hrun, hended, hW, hsame⟩ := X113.leave (v := none) (fun _ => rfl)
  refine ⟨_, _, pre0 _ ?_, hrun, hended, _, _, rfl, ?_, ⟨_, rfl⟩, hW, hsame.mono (by decide) (by decide)⟩
  · show SP pg ev below (s₁.setTop (mkF mi 0 #[.val (.ref x), .val (.ref b), .val .null, .unset, .unset] [])) _
    refine XS.aloadN X0.here hx rfl (hb hby dj8_0) rfl rfl ?_
    refine st101 _ ?_
    refine XS.aloadN X101.here hx rfl (hb hby dj8_4) rfl rfl ?_
    refine st103.trans ?_
    refine XS.astoreN X103.here hx rfl (hb hby dj8_8) rfl rfl (l' := #[.val (.ref x), .val (.ref b), .val .null, .val (.ref t), .unset]) rfl ?_
    refine XS.aloadN X103.here hx rfl (hb hby dj8_9) rfl rfl ?_
    refine st104.trans ?_
    refine XS.istore X104.here hx rfl (hb hby dj8_13) rfl (l' := #[.val (.ref x), .val (.ref b), .val .null, .val (.ref t), .val (.int (Int32.ofNat cs.length))]) rfl ?_
    refine XS.aloadN X104.here hx rfl (hb hby dj8_15) rfl rfl ?_
    refine st105.trans ?_
    refine XS.ifNo X105.here hx rfl (hb hby dj8_19) rfl ((if0 _ _).trans (feq (by decide : ¬ ((1 : Int32) = (0 : Int32)))).1) ?_
    refine XS.aloadN X105.here hx rfl (hb hby dj8_22) rfl rfl ?_
    refine XS.iconst X105.here hx rfl (hb hby dj8_23) ?_
    refine st106 _ ?_
    refine XS.aloadN X106.here hx rfl (hb hby dj8_27) rfl rfl ?_
    refine XS.aloadN X106.here hx rfl (hb hby dj8_28) rfl rfl ?_
    refine XS.iconst X106.here hx rfl (hb hby dj8_29) ?_
    refine XS.iload X106.here hx rfl (hb hby dj8_30) rfl ?_
    refine st110 _ ?_
    refine st113 _ ?_
    refine XS.goto X113.here hx rfl (pc0 := 38) (pc' := 97) rfl (hb hby dj8_38) (by decide) (by decide) ?_
    show SP pg ev below (T113.setTop (mkF mi 97 #[.val (.ref x), .val (.ref b), .val .null, .val (.ref t), .val (.int (Int32.ofNat cs.length))] [])) _
    exact X113.returnOut hx Bd.returns (hb hby dj8_97) hr
  · show Q_sia_cut Z x b t cap cs zc hE n0 _ T113.heap _
    rw [e113]
    exact ⟨r_110, rfl, N113, ((((Keep.refl hE [x]).trans (Keep.of_wr W106) (allS (Or.inl (List.mem_of_getElem? (i := 0) rfl)) all0)).trans Kq110 all0).trans (Keep.of_wr W113) (allS (Or.inl (List.mem_of_getElem? (i := 0) rfl)) all0)), (Nat.le_trans (Keep.of_wr W106).1 fr_r_110), s115⟩
theorem dj25_0 : decode jc25 0 = .ok (.aload_n 0, 1) := by decide +kernel
theorem dj25_1 : decode jc25 1 = .ok (.aload_n 1, 1) := by decide +kernel
theorem dj25_2 : decode jc25 2 = .ok (.aconst_null, 1) := by decide +kernel
theorem dj25_3 : decode jc25 3 = .ok (.invokespecial 489, 3) := by decide +kernel
theorem dj25_6 : decode jc25 6 = .ok (.return_, 1) := by decide +kernel
theorem pd_17 : parseMethodDescriptor "(Ljava/lang/AbstractStringBuilder;Ljava/lang/Void;)V" = some ⟨[(.object "java/lang/AbstractStringBuilder"), (.object "java/lang/Void")], none⟩ := by decide +kernel
theorem ef_sis_cut (mi : MethodId) (x : Addr) (b : Addr) : entryFrame mi #[(.ref x), (.ref b)] 2 = mkF mi 0 #[.val (.ref x), .val (.ref b)] [] := rfl
def Q_sis_cut (Z : State) (x b t : Addr) (cap : Nat) (cs : List Int32) (zc : Int32) (hE : Heap) (n0 : Nat) (vv : Option Value) (hh : Heap) (LL : List Loc) : Prop := ∃ r : Addr, (vv = none) ∧ (Fr n0 LL) ∧ (Keep hE hh [x]) ∧ (hE.size ≤ r) ∧ (LStr Z hh x r cs)
theorem rm_sis_cut (hw : HW a0 Z) (ws : List Cond) (x b t : Addr) (cap : Nat) (cs : List Int32) (zc : Int32) (hE : Heap) (n0 : Nat) (O : Old Z n0 hE) (P0_ : Exa Z hE x c1_) (P1_ : Fld Z hE x c1_ "value" "[B" .null) (P2_ : Fld Z hE x c1_ "coder" "B" (.int 0)) (P3_ : SBl Z hE b t cap cs) (D0_ : Sta Z Z.heap c1_ c5_ "Z" (.int zc)) (g_x : n0 ≤ x) (ne_b_x : b ≠ x) (ne_t_x : t ≠ x) (hlc : cs.length < cap) (hzc : ¬ (zc = (0 : Int32))) :
    MF la Z hE mn28 jc25 2 none ws (rr 4 1 120 65) #[(.ref x), (.ref b)] (Q_sis_cut Z x b t cap cs zc hE n0) := by
  refine MetFree.of_bodySF (plainFor_of_name pn_java_lang_String) hisR ?_
  intro pg ev sb mi gs below me cd s₁ Bd hml0 hPt hKt
  obtain ⟨rfl, hZ, hh⟩ := hPt
  have hx := Bd.exec
  have hby := Bd.bytes
  have hml : cd.maxLocals = 2 := hml0
  have hown : sb.vm.findClass c1_ = some mi.cls := findClass_of_methodNamed Bd.named
  have X0 : Stand pg la ev (rr 4 1 120 65) sb mi #[(.ref x), (.ref b)] below me cd s₁ [] 0 0 := Stand.of_body Bd
  have eE : s₁.heap = hE := by rw [← hh, Bd.state]; rfl
  have N0 := Fr.nil n0
  have pre0 : ∀ tt, SP pg ev below (s₁.setTop (mkF mi 0 #[.val (.ref x), .val (.ref b)] [])) tt → SP pg ev below (s₁.setTop (entryFrame mi #[(.ref x), (.ref b)] 2)) tt := fun tt kk => castTop (ef_sis_cut mi x b) kk
  obtain ⟨v101, _, ⟨T101, L101, k101, n101⟩, -, X101, ⟨Lc101, hQ101, l101, y101, z101⟩, st101⟩ := X0.specialBack hx (y := mn27) rfl hown (mvT hZ (wd187 hw)) (mvT hZ (wd188 hw)) (mvT hZ (wd189 hw)) (by decide) (backOf (W := 0) (rm_sia_cut la Z a0 hw [] x b t cap cs zc hE n0 O P0_ P1_ P2_ P3_ D0_ g_x ne_b_x ne_t_x (hlc : cs.length < cap) (hzc : ¬ (zc = (0 : Int32)))) hZ (wd189 hw) (wd6 hw) (by decide) (by decide)) (g := (mkF mi 3 #[.val (.ref x), .val (.ref b)] [.null, (.ref b), (.ref x)])) rfl (by rw [hml]; rfl) (Steps.refl _) (a := x) (argsL := [(.ref b), .null]) (rest := []) (lenOf pd_17 rfl) rfl (Nat.le_of_ble_eq_true rfl) (hb hby dj25_3) (fun _ _ => ⟨rfl, eE, (by decide : 0 + 1 ≤ _), (by decide : 0 + 120 ≤ _)⟩)
  dsimp only [Pt.U, Pt.locs, Pt.cells, Pt.slots] at X101 l101 y101 z101 st101 hQ101
  subst l101 y101 z101
  obtain ⟨r_101, rfl, Nq101, Kq101, fr_r_101, r101_0⟩ := hQ101
  have N101 := Fr.app N0 Nq101
  obtain ⟨fs, hr, hrun, hended, hW, hsame⟩ := X101.leave (v := none) (fun _ => rfl)
  refine ⟨_, _, pre0 _ ?_, hrun, hended, _, _, rfl, ?_, ⟨_, rfl⟩, hW, hsame.mono (by decide) (by decide)⟩
  · show SP pg ev below (s₁.setTop (mkF mi 0 #[.val (.ref x), .val (.ref b)] [])) _
    refine XS.aloadN X0.here hx rfl (hb hby dj25_0) rfl rfl ?_
    refine XS.aloadN X0.here hx rfl (hb hby dj25_1) rfl rfl ?_
    refine XS.aconstNull X0.here hx rfl (hb hby dj25_2) ?_
    refine st101.trans ?_
    show SP pg ev below (T101.setTop (mkF mi 6 #[.val (.ref x), .val (.ref b)] [])) _
    exact X101.returnOut hx Bd.returns (hb hby dj25_6) hr
  · show Q_sis_cut Z x b t cap cs zc hE n0 _ T101.heap _
    exact ⟨r_101, rfl, N101, ((Keep.refl hE [x]).trans Kq101 (allS (Or.inl (List.mem_of_getElem? (i := 0) rfl)) all0)), fr_r_101, r101_0⟩
theorem dj26_0 : decode jc26 0 = .ok (.new 18, 3) := by decide +kernel
theorem dj26_3 : decode jc26 3 = .ok (.dup, 1) := by decide +kernel
theorem dj26_4 : decode jc26 4 = .ok (.aload_n 0, 1) := by decide +kernel
theorem dj26_5 : decode jc26 5 = .ok (.invokespecial 137, 3) := by decide +kernel
theorem dj26_8 : decode jc26 8 = .ok (.areturn, 1) := by decide +kernel
theorem pd_18 : parseMethodDescriptor "(Ljava/lang/StringBuilder;)V" = some ⟨[(.object "java/lang/StringBuilder")], none⟩ := by decide +kernel
theorem ef_sbt_cut (mi : MethodId) (b : Addr) : entryFrame mi #[(.ref b)] 1 = mkF mi 0 #[.val (.ref b)] [] := rfl
def Q_sbt_cut (Z : State) (b t : Addr) (cap : Nat) (cs : List Int32) (zc : Int32) (hE : Heap) (n0 : Nat) (vv : Option Value) (hh : Heap) (LL : List Loc) : Prop := ∃ x : Addr, ∃ r : Addr, (vv = some (.ref x)) ∧ (Fr n0 LL) ∧ (Keep hE hh []) ∧ (hE.size ≤ x) ∧ (hE.size ≤ r) ∧ (LStr Z hh x r cs)
theorem rm_sbt_cut (hw : HW a0 Z) (ws : List Cond) (b t : Addr) (cap : Nat) (cs : List Int32) (zc : Int32) (hE : Heap) (n0 : Nat) (O : Old Z n0 hE) (P0_ : SBl Z hE b t cap cs) (D0_ : Sta Z Z.heap c1_ c5_ "Z" (.int zc)) (hlc : cs.length < cap) (hzc : ¬ (zc = (0 : Int32))) :
    MF la Z hE mn29 jc26 1 (some (.object c1_)) ws (rr 5 2 124 79) #[(.ref b)] (Q_sbt_cut Z b t cap cs zc hE n0) := by
  refine MetFree.of_bodySF (plainFor_of_name pn_java_lang_StringBuilder) hisR ?_
  intro pg ev sb mi gs below me cd s₁ Bd hml0 hPt hKt
  obtain ⟨rfl, hZ, hh⟩ := hPt
  have hx := Bd.exec
  have hby := Bd.bytes
  have hml : cd.maxLocals = 1 := hml0
  have hown : sb.vm.findClass c4_ = some mi.cls := findClass_of_methodNamed Bd.named
  have X0 : Stand pg la ev (rr 5 2 124 79) sb mi #[(.ref b)] below me cd s₁ [] 0 0 := Stand.of_body Bd
  have eE : s₁.heap = hE := by rw [← hh, Bd.state]; rfl
  have N0 := Fr.nil n0
  have pre0 : ∀ tt, SP pg ev below (s₁.setTop (mkF mi 0 #[.val (.ref b)] [])) tt → SP pg ev below (s₁.setTop (entryFrame mi #[(.ref b)] 1)) tt := fun tt kk => castTop (ef_sbt_cut mi b) kk
  obtain ⟨T101, h101, X101, e101, E101, A101, D101, -, st101⟩ := newO X0 hx hZ hown (wd183 hw) (wd14 hw) (wd6 hw) eE (g := (mkF mi 0 #[.val (.ref b)] [])) rfl (hb hby dj26_0) (by decide) (by decide)
  obtain ⟨b101, q101⟩ : ∃ z, z = hE.size := ⟨_, rfl⟩
  rw [← q101] at A101 D101 st101
  have f102 : Fld Z h101 b101 c1_ "value" "[B" .null := D101 (Or.inr (wd27 hw)) (ty := (.array .byte)) (by decide)
  have f103 : Fld Z h101 b101 c1_ "coder" "B" (.int 0) := D101 (Or.inr (wd29 hw)) (ty := .byte) (by decide)
  have O104 : Old Z n0 h101 := (O.ext E101)
  have f105 : SBl Z h101 b t cap cs := (P0_.ext E101)
  have g_b101 : n0 ≤ b101 := Nat.le_trans (Nat.le_trans (Nat.le_of_eq O.1.symm) O.2.1) (Nat.le_of_eq q101.symm)
  have ne_b_b101 : b ≠ b101 := Nat.ne_of_lt (Nat.lt_of_lt_of_le P0_.lt (Nat.le_trans (Nat.le_refl _) (Nat.le_of_eq q101.symm)))
  have ne_t_b101 : t ≠ b101 := Nat.ne_of_lt (Nat.lt_of_lt_of_le P0_.ltt (Nat.le_trans (Nat.le_refl _) (Nat.le_of_eq q101.symm)))
  obtain ⟨v106, _, ⟨T106, L106, k106, n106⟩, -, X106, ⟨Lc106, hQ106, l106, y106, z106⟩, st106⟩ := X101.specialBack hx (y := mn28) rfl hown (mvT hZ (wd184 hw)) (mvT hZ (wd185 hw)) (mvT hZ (wd186 hw)) (by decide) (backOf (W := 1) (rm_sis_cut la Z a0 hw [] b101 b t cap cs zc h101 n0 O104 A101 f102 f103 f105 D0_ g_b101 ne_b_b101 ne_t_b101 (hlc : cs.length < cap) (hzc : ¬ (zc = (0 : Int32)))) hZ (wd186 hw) (wd6 hw) (by decide) (by decide)) (g := (mkF mi 5 #[.val (.ref b)] [(.ref b), (.ref b101), (.ref b101)])) rfl (by rw [hml]; rfl) (Steps.refl _) (a := b101) (argsL := [(.ref b)]) (rest := [(.ref b101)]) (lenOf pd_18 rfl) rfl (Nat.le_of_ble_eq_true rfl) (hb hby dj26_5) (fun _ _ => ⟨rfl, e101, (by decide : 1 + 1 ≤ _), (by decide : 4 + 120 ≤ _)⟩)
  dsimp only [Pt.U, Pt.locs, Pt.cells, Pt.slots] at X106 l106 y106 z106 st106 hQ106
  subst l106 y106 z106
  obtain ⟨r_106, rfl, Nq106, Kq106, fr_r_106, r106_0⟩ := hQ106
  have N106 := Fr.app N0 Nq106
  obtain ⟨fs, hr, hrun, hended, hW, hsame⟩ := X106.leave (v := some (.ref b101)) (fun hq => by rw [Bd.returns] at hq; cases hq)
  refine ⟨_, _, pre0 _ ?_, hrun, hended, _, _, rfl, ?_, ⟨_, rfl⟩, hW, hsame.mono (by decide) (by decide)⟩
  · show SP pg ev below (s₁.setTop (mkF mi 0 #[.val (.ref b)] [])) _
    refine st101 _ ?_
    refine XS.dup X101.here hx rfl (hb hby dj26_3) rfl rfl ?_
    refine XS.aloadN X101.here hx rfl (hb hby dj26_4) rfl rfl ?_
    refine st106.trans ?_
    show SP pg ev below (T106.setTop (mkF mi 8 #[.val (.ref b)] [(.ref b101)])) _
    jvm_step X106.here [X106.here.top, hx, (hb hby dj26_8), X106.method', Bd.returns, Value.isRef, FieldType.isReference]
    first | (intro acts; rw [hr _ acts rfl rfl rfl]) | rw [hr _ _ rfl rfl rfl]
    exact Steps.refl _
  · show Q_sbt_cut Z b t cap cs zc hE n0 _ T106.heap _
    exact ⟨b101, r_106, rfl, N106, (((Keep.refl hE []).ext E101).trans Kq106 (allS (Or.inr (Nat.le_of_eq q101.symm)) all0)), (Nat.le_of_eq q101.symm), (Nat.le_trans E101.1 fr_r_106), r106_0⟩
theorem ef_sia_full (mi : MethodId) (x : Addr) (b : Addr) : entryFrame mi #[(.ref x), (.ref b), .null] 5 = mkF mi 0 #[.val (.ref x), .val (.ref b), .val .null, .unset, .unset] [] := rfl
def Q_sia_full (Z : State) (x b t : Addr) (cap : Nat) (cs : List Int32) (zc : Int32) (hE : Heap) (n0 : Nat) (vv : Option Value) (hh : Heap) (LL : List Loc) : Prop := ∃ r : Addr, (vv = none) ∧ (Fr n0 LL) ∧ (Keep hE hh [x]) ∧ (hE.size ≤ r) ∧ (LStr Z hh x r cs)
theorem rm_sia_full (hw : HW a0 Z) (ws : List Cond) (x b t : Addr) (cap : Nat) (cs : List Int32) (zc : Int32) (hE : Heap) (n0 : Nat) (O : Old Z n0 hE) (P0_ : Exa Z hE x c1_) (P1_ : Fld Z hE x c1_ "value" "[B" .null) (P2_ : Fld Z hE x c1_ "coder" "B" (.int 0)) (P3_ : SBl Z hE b t cap cs) (D0_ : Sta Z Z.heap c1_ c5_ "Z" (.int zc)) (g_x : n0 ≤ x) (ne_b_x : b ≠ x) (ne_t_x : t ≠ x) (hlc : cs.length = cap) (hzc : ¬ (zc = (0 : Int32))) :
    MF la Z hE mn27 jc8 5 none ws (rr 2 1 120 29) #[(.ref x), (.ref b), .null] (Q_sia_full Z x b t cap cs zc hE n0) := by
  refine MetFree.of_bodySF (plainFor_of_name pn_java_lang_String) hisR ?_
  intro pg ev sb mi gs below me cd s₁ Bd hml0 hPt hKt
  obtain ⟨rfl, hZ, hh⟩ := hPt
  have hx := Bd.exec
  have hby := Bd.bytes
  have hml : cd.maxLocals = 5 := hml0
  have hown : sb.vm.findClass c1_ = some mi.cls := findClass_of_methodNamed Bd.named
  have hnm := (name_of_methodNamed Bd.named Bd.method).1
  have X0 : Stand pg la ev (rr 2 1 120 29) sb mi #[(.ref x), (.ref b), .null] below me cd s₁ [] 0 0 := Stand.of_body Bd
  have eE : s₁.heap = hE := by rw [← hh, Bd.state]; rfl
  have N0 := Fr.nil n0
  have pre0 : ∀ tt, SP pg ev below (s₁.setTop (mkF mi 0 #[.val (.ref x), .val (.ref b), .val .null, .unset, .unset] [])) tt → SP pg ev below (s₁.setTop (entryFrame mi #[(.ref x), (.ref b), .null] 5)) tt := fun tt kk => castTop (ef_sia_full mi x b) kk
  obtain ⟨T101, X101, e101, st101⟩ := initO X0 hx hZ hown (wd23 hw) (wd24 hw) (wd25 hw) eE (g := (mkF mi 1 #[.val (.ref x), .val (.ref b), .val .null, .unset, .unset] [(.ref x)])) rfl (by rw [hml]; rfl) rfl (hb hby dj8_1) (by decide) (W := 0) (Nat.le_of_ble_eq_true rfl) (by decide)
  obtain ⟨bE102, bV102, bC102, bN102, ⟨kb102, bK102⟩, bX102, bb102, bl102, bm102⟩ := id P3_
  obtain ⟨cq103, kq103, q103a, q103b, q103c⟩ := isOf hZ e101 bE102
  obtain ⟨v103, _, ⟨T103, L103, k103, n103⟩, -, X103, ⟨Lc103, hQ103, l103, y103, z103⟩, st103⟩ := X101.virtualBack hx (y := mn20) (z := mn20) hown (mvT hZ (wd190 hw)) (mvT hZ (wd191 hw)) (notFace_of_selects (args := #[]) (mvT hZ (wd193 hw))) (mvT hZ (wd193 hw)) (mvT hZ (wd192 hw)) (by decide) (backOf (W := 0) (rm_agv la Z a0 hw [] b t hE n0 O bV102) hZ (wd194 hw) (wd122 hw) (by decide) (by decide)) q103a q103c (g := (mkF mi 5 #[.val (.ref x), .val (.ref b), .val .null, .unset, .unset] [(.ref b)])) rfl (by rw [hml]; rfl) (Steps.refl _) (argsL := []) (rest := []) (lenOf pd_16 rfl) rfl (Nat.le_of_ble_eq_true rfl) (hb hby dj8_5) (fun _ _ => ⟨rfl, e101, (by decide : 0 + 0 ≤ _), (by decide : 0 + 0 ≤ _)⟩)
  dsimp only [Pt.U, Pt.locs, Pt.cells, Pt.slots] at X103 l103 y103 z103 st103 hQ103
  subst l103 y103 z103
  obtain ⟨rfl, Nq103, ek103⟩ := hQ103
  have N103 := Fr.app N0 Nq103
  obtain ⟨cq104, kq104, q104a, q104b, q104c⟩ := isOf hZ ek103 bE102
  obtain ⟨v104, _, ⟨T104, L104, k104, n104⟩, -, X104, ⟨Lc104, hQ104, l104, y104, z104⟩, st104⟩ := X103.virtualBack hx (y := mn21) (z := mn22) hown (mvT hZ (wd195 hw)) (mvT hZ (wd196 hw)) (own_nf (args := #[]) (mvT hZ (wd151 hw)) rfl) (mvT hZ (wd198 hw)) (mvT hZ (wd199 hw)) (by decide) (backOf (W := 0) (rm_sbl la Z a0 hw [] b (Int32.ofNat cs.length) hE n0 O bE102 bN102) hZ (wd200 hw) (wd114 hw) (by decide) (by decide)) q104a q104c (g := (mkF mi 10 #[.val (.ref x), .val (.ref b), .val .null, .val (.ref t), .unset] [(.ref b)])) rfl (by rw [hml]; rfl) (Steps.refl _) (argsL := []) (rest := []) (lenOf pd_12 rfl) rfl (Nat.le_of_ble_eq_true rfl) (hb hby dj8_10) (fun _ _ => ⟨rfl, ek103, (by decide : 0 + 0 ≤ _), (by decide : 0 + 0 ≤ _)⟩)
  dsimp only [Pt.U, Pt.locs, Pt.cells, Pt.slots] at X104 l104 y104 z104 st104 hQ104
  subst l104 y104 z104
  obtain ⟨rfl, Nq104, ek104⟩ := hQ104
  have N104 := Fr.app N103 Nq104
  obtain ⟨cq105, kq105, q105a, q105b, q105c⟩ := isOf hZ ek104 bE102
  obtain ⟨v105, _, ⟨T105, L105, k105, n105⟩, -, X105, ⟨Lc105, hQ105, l105, y105, z105⟩, st105⟩ := X104.virtualBack hx (y := mn23) (z := mn23) hown (mvT hZ (wd203 hw)) (mvT hZ (wd204 hw)) (notFace_of_selects (args := #[]) (mvT hZ (wd206 hw))) (mvT hZ (wd206 hw)) (mvT hZ (wd205 hw)) (by decide) (backOf (W := 0) (rm_ail1 la Z a0 hw [] b zc hE n0 O bC102 D0_ (hzc : ¬ (zc = (0 : Int32)))) hZ (wd207 hw) (wd122 hw) (by decide) (by decide)) q105a q105c (g := (mkF mi 16 #[.val (.ref x), .val (.ref b), .val .null, .val (.ref t), .val (.int (Int32.ofNat cs.length))] [(.ref b)])) rfl (by rw [hml]; rfl) (Steps.refl _) (argsL := []) (rest := []) (lenOf pd_3 rfl) rfl (Nat.le_of_ble_eq_true rfl) (hb hby dj8_16) (fun _ _ => ⟨rfl, ek104, (by decide : 0 + 0 ≤ _), (by decide : 0 + 0 ≤ _)⟩)
  dsimp only [Pt.U, Pt.locs, Pt.cells, Pt.slots] at X105 l105 y105 z105 st105 hQ105
  subst l105 y105 z105
  obtain ⟨rfl, Nq105, ek105⟩ := hQ105
  have N105 := Fr.app N104 Nq105
  obtain ⟨T106, h106, X106, e106, W106, st106⟩ := putFN X105 hx hZ hown (wd28 hw) Via.refl ek105 P2_ P0_ (Or.inr ⟨(wd29 hw), rfl, hnm⟩) (wd14 hw) (ty := .byte) (v' := (.int 0)) (by decide) rfl rfl (g := (mkF mi 24 #[.val (.ref x), .val (.ref b), .val .null, .val (.ref t), .val (.int (Int32.ofNat cs.length))] [(.int 0), (.ref x)])) rfl rfl (hb hby dj8_24)
  have N106 := Fr.snoc X106 N105 g_x
  have f107 : Fld Z h106 x c1_ "coder" "B" (.int 0) := P2_.same W106
  have O108 : Old Z n0 h106 := (O.keep (Keep.of_wr W106) (allS g_x all0))
  have f109 : Arv Z h106 t kb102 .byte (Int32.ofNat cap) (pads cap cs) (.int 0) := (bK102.keep (Keep.of_wr W106) (ninS ne_t_x nin0))
  have f110 : Exa Z h106 t "[B" := (bX102.keep (Keep.of_wr W106))
  obtain ⟨v111, _, ⟨T111, L111, k111, n111⟩, -, X111, ⟨Lc111, hQ111, l111, y111, z111⟩, st111⟩ := Jvm.LawKit.callS X106 hx (y := mn26) hown (mvT hZ (wd208 hw)) (mvT hZ (wd209 hw)) (mvT hZ (wd210 hw)) (mvT hZ (wd211 hw)) (by decide) (backOf (W := 1) (rm_crf la Z a0 hw [] t kb102 cap cs h106 n0 O108 f109 f110 (hlc : cs.length = cap) (bm102 : cap ≤ 120)) hZ (wd211 hw) (wd210 hw) (by decide) (by decide)) (g := (mkF mi 32 #[.val (.ref x), .val (.ref b), .val .null, .val (.ref t), .val (.int (Int32.ofNat cs.length))] [(.int (Int32.ofNat cs.length)), (.int 0), (.ref t), (.ref x)])) rfl (by rw [hml]; rfl) (argsL := [(.ref t), (.int 0), (.int (Int32.ofNat cs.length))]) (rest := [(.ref x)]) (lenOf pd_15 rfl) rfl (Nat.le_of_ble_eq_true rfl) (hb hby dj8_32) (fun _ _ => ⟨rfl, e106, (by decide : 0 + 1 ≤ _), (by decide : 0 + 120 ≤ _)⟩)
  dsimp only [Pt.U, Pt.locs, Pt.cells, Pt.slots] at X111 l111 y111 z111 st111 hQ111
  subst l111 y111 z111
  obtain ⟨r_111, kr_111, rfl, Nq111, Kq111, fr_r_111, r111_0⟩ := hQ111
  have N111 := Fr.app N106 Nq111
  have f112 : Exa Z T111.heap x c1_ := ((P0_.keep (Keep.of_wr W106)).keep Kq111)
  have f113 : Fld Z T111.heap x c1_ "value" "[B" .null := ((P1_.other W106 (Or.inr (slot_ne (Or.inr (wd27 hw)) (Or.inr (wd29 hw)) (by decide) (t := (.array .byte)) (t' := .byte) (by decide) (by decide)))).keep Kq111 nin0)
  obtain ⟨T114, h114, X114, e114, W114, st114⟩ := putF X111 hx hZ hown (host := "") (Or.inl (wd26 hw)) Via.refl rfl f113 f112 (Or.inr ⟨(wd27 hw), rfl, hnm⟩) (wd14 hw) (ty := (.array .byte)) (by decide) rfl rfl (g := (mkF mi 35 #[.val (.ref x), .val (.ref b), .val .null, .val (.ref t), .val (.int (Int32.ofNat cs.length))] [(.ref r_111), (.ref x)])) rfl rfl (hb hby dj8_35)
  have N114 := Fr.snoc X114 N111 g_x
  have f115 : Fld Z h114 x c1_ "value" "[B" (.ref r_111) := f113.same W114
  have f117 : Exa Z h114 x c1_ := (f112.keep (Keep.of_wr W114))
  have f118 : Fld Z h114 x c1_ "coder" "B" (.int 0) := ((f107.keep Kq111 nin0).other W114 (Or.inr (slot_ne (Or.inr (wd29 hw)) (Or.inr (wd27 hw)) (by decide) (t := .byte) (t' := (.array .byte)) (by decide) (by decide))))
  have ne_x_r_111 : x ≠ r_111 := Nat.ne_of_lt (Nat.lt_of_lt_of_le P0_.lt (Nat.le_trans (Keep.of_wr W106).1 fr_r_111))
  have f119 : Arv Z h114 r_111 kr_111 .byte (Int32.ofNat cs.length) (bys cs) (.int 0) := (r111_0.keep (Keep.of_wr W114) (ninS (Ne.symm ne_x_r_111) nin0))
  have s116 : LStr Z h114 x r_111 cs := ⟨f117, f115, f118, ⟨_, f119⟩, bb102, (by have := bl102; have := bm102; omega)⟩
  obtain ⟨fs, hr, hrun, hended, hW, hsame⟩ := X114.leave (v := none) (fun _ => rfl)
  refine ⟨_, _, pre0 _ ?_, hrun, hended, _, _, rfl, ?_, ⟨_, rfl⟩, hW, hsame.mono (by decide) (by decide)⟩
  · show SP pg ev below (s₁.setTop (mkF mi 0 #[.val (.ref x), .val (.ref b), .val .null, .unset, .unset] [])) _
    refine XS.aloadN X0.here hx rfl (hb hby dj8_0) rfl rfl ?_
    refine st101 _ ?_
    refine XS.aloadN X101.here hx rfl (hb hby dj8_4) rfl rfl ?_
    refine st103.trans ?_
    refine XS.astoreN X103.here hx rfl (hb hby dj8_8) rfl rfl (l' := #[.val (.ref x), .val (.ref b), .val .null, .val (.ref t), .unset]) rfl ?_
    refine XS.aloadN X103.here hx rfl (hb hby dj8_9) rfl rfl ?_
    refine st104.trans ?_
    refine XS.istore X104.here hx rfl (hb hby dj8_13) rfl (l' := #[.val (.ref x), .val (.ref b), .val .null, .val (.ref t), .val (.int (Int32.ofNat cs.length))]) rfl ?_
    refine XS.aloadN X104.here hx rfl (hb hby dj8_15) rfl rfl ?_
    refine st105.trans ?_
    refine XS.ifNo X105.here hx rfl (hb hby dj8_19) rfl ((if0 _ _).trans (feq (by decide : ¬ ((1 : Int32) = (0 : Int32)))).1) ?_
    refine XS.aloadN X105.here hx rfl (hb hby dj8_22) rfl rfl ?_
    refine XS.iconst X105.here hx rfl (hb hby dj8_23) ?_
    refine st106 _ ?_
    refine XS.aloadN X106.here hx rfl (hb hby dj8_27) rfl rfl ?_
    refine XS.aloadN X106.here hx rfl (hb hby dj8_28) rfl rfl ?_
    refine XS.iconst X106.here hx rfl (hb hby dj8_29) ?_
    refine XS.iload X106.here hx rfl (hb hby dj8_30) rfl ?_
    refine st111 _ ?_
    refine st114 _ ?_
    refine XS.goto X114.here hx rfl (pc0 := 38) (pc' := 97) rfl (hb hby dj8_38) (by decide) (by decide) ?_
    show SP pg ev below (T114.setTop (mkF mi 97 #[.val (.ref x), .val (.ref b), .val .null, .val (.ref t), .val (.int (Int32.ofNat cs.length))] [])) _
    exact X114.returnOut hx Bd.returns (hb hby dj8_97) hr
  · show Q_sia_full Z x b t cap cs zc hE n0 _ T114.heap _
    rw [e114]
    exact ⟨r_111, rfl, N114, ((((Keep.refl hE [x]).trans (Keep.of_wr W106) (allS (Or.inl (List.mem_of_getElem? (i := 0) rfl)) all0)).trans Kq111 all0).trans (Keep.of_wr W114) (allS (Or.inl (List.mem_of_getElem? (i := 0) rfl)) all0)), (Nat.le_trans (Keep.of_wr W106).1 fr_r_111), s116⟩
theorem ef_sis_full (mi : MethodId) (x : Addr) (b : Addr) : entryFrame mi #[(.ref x), (.ref b)] 2 = mkF mi 0 #[.val (.ref x), .val (.ref b)] [] := rfl
def Q_sis_full (Z : State) (x b t : Addr) (cap : Nat) (cs : List Int32) (zc : Int32) (hE : Heap) (n0 : Nat) (vv : Option Value) (hh : Heap) (LL : List Loc) : Prop := ∃ r : Addr, (vv = none) ∧ (Fr n0 LL) ∧ (Keep hE hh [x]) ∧ (hE.size ≤ r) ∧ (LStr Z hh x r cs)
theorem rm_sis_full (hw : HW a0 Z) (ws : List Cond) (x b t : Addr) (cap : Nat) (cs : List Int32) (zc : Int32) (hE : Heap) (n0 : Nat) (O : Old Z n0 hE) (P0_ : Exa Z hE x c1_) (P1_ : Fld Z hE x c1_ "value" "[B" .null) (P2_ : Fld Z hE x c1_ "coder" "B" (.int 0)) (P3_ : SBl Z hE b t cap cs) (D0_ : Sta Z Z.heap c1_ c5_ "Z" (.int zc)) (g_x : n0 ≤ x) (ne_b_x : b ≠ x) (ne_t_x : t ≠ x) (hlc : cs.length = cap) (hzc : ¬ (zc = (0 : Int32))) :
    MF la Z hE mn28 jc25 2 none ws (rr 3 1 120 45) #[(.ref x), (.ref b)] (Q_sis_full Z x b t cap cs zc hE n0) := by
  refine MetFree.of_bodySF (plainFor_of_name pn_java_lang_String) hisR ?_
  intro pg ev sb mi gs below me cd s₁ Bd hml0 hPt hKt
  obtain ⟨rfl, hZ, hh⟩ := hPt
  have hx := Bd.exec
  have hby := Bd.bytes
  have hml : cd.maxLocals = 2 := hml0
  have hown : sb.vm.findClass c1_ = some mi.cls := findClass_of_methodNamed Bd.named
  have X0 : Stand pg la ev (rr 3 1 120 45) sb mi #[(.ref x), (.ref b)] below me cd s₁ [] 0 0 := Stand.of_body Bd
  have eE : s₁.heap = hE := by rw [← hh, Bd.state]; rfl
  have N0 := Fr.nil n0
  have pre0 : ∀ tt, SP pg ev below (s₁.setTop (mkF mi 0 #[.val (.ref x), .val (.ref b)] [])) tt → SP pg ev below (s₁.setTop (entryFrame mi #[(.ref x), (.ref b)] 2)) tt := fun tt kk => castTop (ef_sis_full mi x b) kk
  obtain ⟨v101, _, ⟨T101, L101, k101, n101⟩, -, X101, ⟨Lc101, hQ101, l101, y101, z101⟩, st101⟩ := X0.specialBack hx (y := mn27) rfl hown (mvT hZ (wd187 hw)) (mvT hZ (wd188 hw)) (mvT hZ (wd189 hw)) (by decide) (backOf (W := 0) (rm_sia_full la Z a0 hw [] x b t cap cs zc hE n0 O P0_ P1_ P2_ P3_ D0_ g_x ne_b_x ne_t_x (hlc : cs.length = cap) (hzc : ¬ (zc = (0 : Int32)))) hZ (wd189 hw) (wd6 hw) (by decide) (by decide)) (g := (mkF mi 3 #[.val (.ref x), .val (.ref b)] [.null, (.ref b), (.ref x)])) rfl (by rw [hml]; rfl) (Steps.refl _) (a := x) (argsL := [(.ref b), .null]) (rest := []) (lenOf pd_17 rfl) rfl (Nat.le_of_ble_eq_true rfl) (hb hby dj25_3) (fun _ _ => ⟨rfl, eE, (by decide : 0 + 1 ≤ _), (by decide : 0 + 120 ≤ _)⟩)
  dsimp only [Pt.U, Pt.locs, Pt.cells, Pt.slots] at X101 l101 y101 z101 st101 hQ101
  subst l101 y101 z101
  obtain ⟨r_101, rfl, Nq101, Kq101, fr_r_101, r101_0⟩ := hQ101
  have N101 := Fr.app N0 Nq101
  obtain ⟨fs, hr, hrun, hended, hW, hsame⟩ := X101.leave (v := none) (fun _ => rfl)
  refine ⟨_, _, pre0 _ ?_, hrun, hended, _, _, rfl, ?_, ⟨_, rfl⟩, hW, hsame.mono (by decide) (by decide)⟩
  · show SP pg ev below (s₁.setTop (mkF mi 0 #[.val (.ref x), .val (.ref b)] [])) _
    refine XS.aloadN X0.here hx rfl (hb hby dj25_0) rfl rfl ?_
    refine XS.aloadN X0.here hx rfl (hb hby dj25_1) rfl rfl ?_
    refine XS.aconstNull X0.here hx rfl (hb hby dj25_2) ?_
    refine st101.trans ?_
    show SP pg ev below (T101.setTop (mkF mi 6 #[.val (.ref x), .val (.ref b)] [])) _
    exact X101.returnOut hx Bd.returns (hb hby dj25_6) hr
  · show Q_sis_full Z x b t cap cs zc hE n0 _ T101.heap _
    exact ⟨r_101, rfl, N101, ((Keep.refl hE [x]).trans Kq101 (allS (Or.inl (List.mem_of_getElem? (i := 0) rfl)) all0)), fr_r_101, r101_0⟩
theorem ef_sbt_full (mi : MethodId) (b : Addr) : entryFrame mi #[(.ref b)] 1 = mkF mi 0 #[.val (.ref b)] [] := rfl
def Q_sbt_full (Z : State) (b t : Addr) (cap : Nat) (cs : List Int32) (zc : Int32) (hE : Heap) (n0 : Nat) (vv : Option Value) (hh : Heap) (LL : List Loc) : Prop := ∃ x : Addr, ∃ r : Addr, (vv = some (.ref x)) ∧ (Fr n0 LL) ∧ (Keep hE hh []) ∧ (hE.size ≤ x) ∧ (hE.size ≤ r) ∧ (LStr Z hh x r cs)
theorem rm_sbt_full (hw : HW a0 Z) (ws : List Cond) (b t : Addr) (cap : Nat) (cs : List Int32) (zc : Int32) (hE : Heap) (n0 : Nat) (O : Old Z n0 hE) (P0_ : SBl Z hE b t cap cs) (D0_ : Sta Z Z.heap c1_ c5_ "Z" (.int zc)) (hlc : cs.length = cap) (hzc : ¬ (zc = (0 : Int32))) :
    MF la Z hE mn29 jc26 1 (some (.object c1_)) ws (rr 5 2 124 79) #[(.ref b)] (Q_sbt_full Z b t cap cs zc hE n0) := by
  refine MetFree.of_bodySF (plainFor_of_name pn_java_lang_StringBuilder) hisR ?_
  intro pg ev sb mi gs below me cd s₁ Bd hml0 hPt hKt
  obtain ⟨rfl, hZ, hh⟩ := hPt
  have hx := Bd.exec
  have hby := Bd.bytes
  have hml : cd.maxLocals = 1 := hml0
  have hown : sb.vm.findClass c4_ = some mi.cls := findClass_of_methodNamed Bd.named
  have X0 : Stand pg la ev (rr 5 2 124 79) sb mi #[(.ref b)] below me cd s₁ [] 0 0 := Stand.of_body Bd
  have eE : s₁.heap = hE := by rw [← hh, Bd.state]; rfl
  have N0 := Fr.nil n0
  have pre0 : ∀ tt, SP pg ev below (s₁.setTop (mkF mi 0 #[.val (.ref b)] [])) tt → SP pg ev below (s₁.setTop (entryFrame mi #[(.ref b)] 1)) tt := fun tt kk => castTop (ef_sbt_full mi b) kk
  obtain ⟨T101, h101, X101, e101, E101, A101, D101, -, st101⟩ := newO X0 hx hZ hown (wd183 hw) (wd14 hw) (wd6 hw) eE (g := (mkF mi 0 #[.val (.ref b)] [])) rfl (hb hby dj26_0) (by decide) (by decide)
  obtain ⟨b101, q101⟩ : ∃ z, z = hE.size := ⟨_, rfl⟩
  rw [← q101] at A101 D101 st101
  have f102 : Fld Z h101 b101 c1_ "value" "[B" .null := D101 (Or.inr (wd27 hw)) (ty := (.array .byte)) (by decide)
  have f103 : Fld Z h101 b101 c1_ "coder" "B" (.int 0) := D101 (Or.inr (wd29 hw)) (ty := .byte) (by decide)
  have O104 : Old Z n0 h101 := (O.ext E101)
  have f105 : SBl Z h101 b t cap cs := (P0_.ext E101)
  have g_b101 : n0 ≤ b101 := Nat.le_trans (Nat.le_trans (Nat.le_of_eq O.1.symm) O.2.1) (Nat.le_of_eq q101.symm)
  have ne_b_b101 : b ≠ b101 := Nat.ne_of_lt (Nat.lt_of_lt_of_le P0_.lt (Nat.le_trans (Nat.le_refl _) (Nat.le_of_eq q101.symm)))
  have ne_t_b101 : t ≠ b101 := Nat.ne_of_lt (Nat.lt_of_lt_of_le P0_.ltt (Nat.le_trans (Nat.le_refl _) (Nat.le_of_eq q101.symm)))
  obtain ⟨v106, _, ⟨T106, L106, k106, n106⟩, -, X106, ⟨Lc106, hQ106, l106, y106, z106⟩, st106⟩ := X101.specialBack hx (y := mn28) rfl hown (mvT hZ (wd184 hw)) (mvT hZ (wd185 hw)) (mvT hZ (wd186 hw)) (by decide) (backOf (W := 1) (rm_sis_full la Z a0 hw [] b101 b t cap cs zc h101 n0 O104 A101 f102 f103 f105 D0_ g_b101 ne_b_b101 ne_t_b101 (hlc : cs.length = cap) (hzc : ¬ (zc = (0 : Int32)))) hZ (wd186 hw) (wd6 hw) (by decide) (by decide)) (g := (mkF mi 5 #[.val (.ref b)] [(.ref b), (.ref b101), (.ref b101)])) rfl (by rw [hml]; rfl) (Steps.refl _) (a := b101) (argsL := [(.ref b)]) (rest := [(.ref b101)]) (lenOf pd_18 rfl) rfl (Nat.le_of_ble_eq_true rfl) (hb hby dj26_5) (fun _ _ => ⟨rfl, e101, (by decide : 1 + 1 ≤ _), (by decide : 4 + 120 ≤ _)⟩)
  dsimp only [Pt.U, Pt.locs, Pt.cells, Pt.slots] at X106 l106 y106 z106 st106 hQ106
  subst l106 y106 z106
  obtain ⟨r_106, rfl, Nq106, Kq106, fr_r_106, r106_0⟩ := hQ106
  have N106 := Fr.app N0 Nq106
  obtain ⟨fs, hr, hrun, hended, hW, hsame⟩ := X106.leave (v := some (.ref b101)) (fun hq => by rw [Bd.returns] at hq; cases hq)
  refine ⟨_, _, pre0 _ ?_, hrun, hended, _, _, rfl, ?_, ⟨_, rfl⟩, hW, hsame.mono (by decide) (by decide)⟩
  · show SP pg ev below (s₁.setTop (mkF mi 0 #[.val (.ref b)] [])) _
    refine st101 _ ?_
    refine XS.dup X101.here hx rfl (hb hby dj26_3) rfl rfl ?_
    refine XS.aloadN X101.here hx rfl (hb hby dj26_4) rfl rfl ?_
    refine st106.trans ?_
    show SP pg ev below (T106.setTop (mkF mi 8 #[.val (.ref b)] [(.ref b101)])) _
    jvm_step X106.here [X106.here.top, hx, (hb hby dj26_8), X106.method', Bd.returns, Value.isRef, FieldType.isReference]
    first | (intro acts; rw [hr _ acts rfl rfl rfl]) | rw [hr _ _ rfl rfl rfl]
    exact Steps.refl _
  · show Q_sbt_full Z b t cap cs zc hE n0 _ T106.heap _
    exact ⟨b101, r_106, rfl, N106, (((Keep.refl hE []).ext E101).trans Kq106 (allS (Or.inr (Nat.le_of_eq q101.symm)) all0)), (Nat.le_of_eq q101.symm), (Nat.le_trans E101.1 fr_r_106), r106_0⟩
theorem own_keep_w {h h' : Heap} {b t : Addr} (K : Keep h h' [b]) : Keep h h' [b, t] := ⟨K.1, fun x c q r => K.2.1 x c q (fun z => r (List.mem_cons.mpr (Or.inl (List.mem_singleton.mp z)))), K.2.2⟩
def Q_sapA (Z : State) (b y t u : Addr) (cap : Nat) (cs ds : List Int32) (zc : Int32) (hE : Heap) (n0 : Nat) (vv : Option Value) (hh : Heap) (LL : List Loc) : Prop := ∃ t2 : Addr, ∃ cap2 : Nat, (vv = some (.ref b)) ∧ (Fr n0 LL) ∧ (Keep hE hh [b, t]) ∧ (SBl Z hh b t2 cap2 (cs ++ ds))
theorem rm_sapA (hw : HW a0 Z) (ws : List Cond) (b y t u : Addr) (cap : Nat) (cs ds : List Int32) (zc : Int32) (hE : Heap) (n0 : Nat) (O : Old Z n0 hE) (P0_ : SBl Z hE b t cap cs) (P1_ : LStr Z hE y u ds) (D0_ : Sta Z Z.heap c1_ c5_ "Z" (.int zc)) (g_b : n0 ≤ b) (g_t : n0 ≤ t) (ne_b_t : b ≠ t) (ne_y_b : y ≠ b) (ne_u_b : u ≠ b) (hn : cs.length + ds.length ≤ 120) (hc5 : cap ≤ 50) (hzc : ¬ (zc = (0 : Int32))) :
    MF la Z hE mn19 jc37 2 (some (.object c4_)) ws (rr 5 1 120 76) #[(.ref b), (.ref y)] (Q_sapA Z b y t u cap cs ds zc hE n0) := by
  by_cases hf : cs.length + ds.length ≤ cap
  · exact MetFree.mono (rm_sap_fit la Z a0 hw ws b y t u cap cs ds zc hE n0 O P0_ P1_ D0_ g_b g_t ne_b_t ne_y_b ne_u_b hf hzc) (fun _ _ h => h) (fun _ _ _ _ _ h => h) (fun _ _ _ _ _ ⟨v, L, e, ⟨q1, q2, q3, q4⟩, r⟩ => ⟨v, L, e, ⟨t, cap, q1, q2, q3, q4⟩, r⟩)
  · exact MetFree.mono (rm_sap_grow la Z a0 hw ws b y t u cap cs ds zc hE n0 O P0_ P1_ D0_ g_b ne_b_t ne_y_b ne_u_b (by omega) hn hc5 hzc) (fun _ _ h => h) (fun _ _ _ _ _ h => h) (fun _ _ _ _ _ ⟨v, L, e, ⟨r_, q1, q2, q3, q4, q5⟩, r⟩ => ⟨v, L, e, ⟨r_, _, q1, q2, own_keep_w q3, q5⟩, r⟩)
def Q_sbtA (Z : State) (b t : Addr) (cap : Nat) (cs : List Int32) (zc : Int32) (hE : Heap) (n0 : Nat) (vv : Option Value) (hh : Heap) (LL : List Loc) : Prop := ∃ x : Addr, ∃ r : Addr, (vv = some (.ref x)) ∧ (Fr n0 LL) ∧ (Keep hE hh []) ∧ (hE.size ≤ x) ∧ (hE.size ≤ r) ∧ (LStr Z hh x r cs)
theorem rm_sbtA (hw : HW a0 Z) (ws : List Cond) (b t : Addr) (cap : Nat) (cs : List Int32) (zc : Int32) (hE : Heap) (n0 : Nat) (O : Old Z n0 hE) (P0_ : SBl Z hE b t cap cs) (D0_ : Sta Z Z.heap c1_ c5_ "Z" (.int zc)) (hzc : ¬ (zc = (0 : Int32))) :
    MF la Z hE mn29 jc26 1 (some (.object c1_)) ws (rr 5 2 124 79) #[(.ref b)] (Q_sbtA Z b t cap cs zc hE n0) := by
  by_cases hf : cs.length = cap
  · exact rm_sbt_full la Z a0 hw ws b t cap cs zc hE n0 O P0_ D0_ hf hzc
  · exact rm_sbt_cut la Z a0 hw ws b t cap cs zc hE n0 O P0_ D0_ (by have := P0_.2.2.2.2.2.2.2.1; omega) hzc
def Q_nsc (Z : State) (x b : Addr) (kC : ClassId) (cs : List Int32) (zc : Int32) (hE : Heap) (n0 : Nat) (vv : Option Value) (hh : Heap) (LL : List Loc) : Prop := ∃ t : Addr, (vv = none) ∧ (Fr n0 LL) ∧ (Keep hE hh [x]) ∧ (hE.size ≤ t) ∧ (LStr Z hh x t cs)

theorem own_nsw {a0 : Array Value} {Z : State} (hw : HW a0 Z) : ∀ d ∈ StrChars.Road.words, d.before a0 Z = true := fun d hd => hw d ((by decide +kernel : ∀ d ∈ StrChars.Road.words, d ∈ tables_1) d hd)
theorem own_nsc {p : Program} {l : Launch} {e : Env} {R : Room} {s : State} {args : Array Value} {below : List Frame} {len W : Nat} {Z : State} {a0 : Array Value} (hZ : Z.Warmed39 s.vm) (hw : HW a0 Z) (wi : (Jvm.Cond.instantiable c1_ 4).before a0 Z = true)
    (x b : Addr) (kC : ClassId) (cs : List Int32) (zc : Int32) (h : Heap) (n0 : Nat) (O : Old Z n0 h) (E : Exa Z h x c1_) (V : Fld Z h x c1_ "value" "[B" .null) (C : Fld Z h x c1_ "coder" "B" (.int 0)) (K : Arv Z h b kC .char (Int32.ofNat cs.length) (cs.map Value.int) (.int 0)) (S : Sta Z Z.heap c1_ c5_ "Z" (.int zc))
    (g_x : n0 ≤ x) (hne : 0 < cs.length) (hl : cs.length ≤ 4000) (hp : ∀ c ∈ cs, ¬ c < 0 ∧ ¬ (255 : Int32) < c) (hzc : ¬ (zc = (0 : Int32))) (n : Nat) (hn : cs.length = n) (hfr : 4 ≤ R.frames) (hlo : W + 65 ≤ R.locals) :
    Back l R p e below s args (⟨c1_, "<init>", "([C)V"⟩ : MethodName) len W (fun P a => a = #[.ref x, .ref b] ∧ P.U.heap = h ∧ P.cells + 1 ≤ R.cells ∧ P.slots + n ≤ R.slots)
      (fun P _ v B => ∃ L, Q_nsc Z x b kC cs zc h n0 v B.U.heap L ∧ B.locs = P.locs ++ L ∧ B.cells = P.cells + 1 ∧ B.slots = P.slots + n) := by
  subst hn
  refine Back.mono (StrChars.Road.backV (n0 := n0) (n := cs.length) (bs := cs.map fun c => c.toInt8.toInt32) hZ (own_nsw hw) wi g_x (by have := O.1; have := O.2.1; omega) E V C K (S.ext O.2) hzc rfl rfl hne hl hp rfl hfr hlo) (fun P a h => h) (fun P a v B _ hq => ?_)
  obtain ⟨L, ⟨q1, q2, q3, q4, q5, t, kb, q6, q7, q8, q9, q10⟩, r⟩ := hq
  exact ⟨L, ⟨t, q1, q2, q3, q7, ⟨q4, q9, q5, ⟨kb, by rw [List.map_map] at q10; exact q10⟩, hp, hl⟩⟩, r⟩

theorem dj45_0 : decode jc45 0 = .ok (.iload_n 0, 1) := by decide +kernel
theorem dj45_1 : decode jc45 1 = .ok (.sipush 255, 3) := by decide +kernel
theorem dj45_4 : decode jc45 4 = .ok (.iand, 1) := by decide +kernel
theorem dj45_5 : decode jc45 5 = .ok (.istore_n 1, 1) := by decide +kernel
theorem dj45_6 : decode jc45 6 = .ok (.iload_n 1, 1) := by decide +kernel
theorem dj45_7 : decode jc45 7 = .ok (.bipush 33, 2) := by decide +kernel
theorem dj45_9 : decode jc45 9 = .ok (.if_icmp .eq 9, 3) := by decide +kernel
theorem dj45_12 : decode jc45 12 = .ok (.iload_n 1, 1) := by decide +kernel
theorem dj45_13 : decode jc45 13 = .ok (.bipush 47, 2) := by decide +kernel
theorem dj45_15 : decode jc45 15 = .ok (.if_icmp .ne 7, 3) := by decide +kernel
theorem dj45_18 : decode jc45 18 = .ok (.iload_n 1, 1) := by decide +kernel
theorem dj45_19 : decode jc45 19 = .ok (.iconst 1, 1) := by decide +kernel
theorem dj45_20 : decode jc45 20 = .ok (.iadd, 1) := by decide +kernel
theorem dj45_21 : decode jc45 21 = .ok (.istore_n 1, 1) := by decide +kernel
theorem dj45_22 : decode jc45 22 = .ok (.iload_n 1, 1) := by decide +kernel
theorem dj45_23 : decode jc45 23 = .ok (.i2c, 1) := by decide +kernel
theorem dj45_24 : decode jc45 24 = .ok (.ireturn, 1) := by decide +kernel
theorem pn_com_example_beanloft_beanloft_naming_GlobalNameInApplicationPinLaw : plainName "com/example/beanloft/beanloft/naming/GlobalNameInApplicationPinLaw" = true := by first | (simp [plainName, overriddenIn]; done) | decide +kernel
theorem ef_chc (mi : MethodId) (q : Int32) : entryFrame mi #[(.int q)] 2 = mkF mi 0 #[.val (.int q), .unset] [] := rfl
def Q_chc (Z : State) (q : Int32) (hE : Heap) (n0 : Nat) (vv : Option Value) (hh : Heap) (LL : List Loc) : Prop := (vv = some (.int (chF q))) ∧ (Fr n0 LL) ∧ (hh = hE)
theorem rm_chc (hw : HW a0 Z) (ws : List Cond) (q : Int32) (hE : Heap) (n0 : Nat) (O : Old Z n0 hE) :
    MF la Z hE mn30 jc45 2 (some .char) ws (rr 0 0 0 0) #[(.int q)] (Q_chc Z q hE n0) := by
  refine MetFree.of_bodySF (plainFor_of_name pn_com_example_beanloft_beanloft_naming_GlobalNameInApplicationPinLaw) hisR ?_
  intro pg ev sb mi gs below me cd s₁ Bd hml0 hPt hKt
  obtain ⟨rfl, hZ, hh⟩ := hPt
  have hx := Bd.exec
  have hby := Bd.bytes
  have hml : cd.maxLocals = 2 := hml0
  have hown : sb.vm.findClass c3_ = some mi.cls := findClass_of_methodNamed Bd.named
  have X0 : Stand pg la ev (rr 0 0 0 0) sb mi #[(.int q)] below me cd s₁ [] 0 0 := Stand.of_body Bd
  have eE : s₁.heap = hE := by rw [← hh, Bd.state]; rfl
  have N0 := Fr.nil n0
  have pre0 : ∀ tt, SP pg ev below (s₁.setTop (mkF mi 0 #[.val (.int q), .unset] [])) tt → SP pg ev below (s₁.setTop (entryFrame mi #[(.int q)] 2)) tt := fun tt kk => castTop (ef_chc mi q) kk
  have pre102 : ∀ tt, SP pg ev below (s₁.setTop (mkF mi 9 #[.val (.int q), .val (.int (q &&& (255 : Int32)))] [(.int 33), (.int (q &&& (255 : Int32)))])) tt → SP pg ev below (s₁.setTop (entryFrame mi #[(.int q)] 2)) tt := fun tt kk => pre0 _ (by
    show SP pg ev below (s₁.setTop (mkF mi 0 #[.val (.int q), .unset] [])) _
    refine XS.iloadN X0.here hx rfl (hb hby dj45_0) rfl ?_
    refine XS.sipush X0.here hx rfl (hb hby dj45_1) ?_
    refine XS.iand X0.here hx rfl (hb hby dj45_4) rfl ?_
    refine XS.istoreN X0.here hx rfl (hb hby dj45_5) rfl (l' := #[.val (.int q), .val (.int (q &&& (255 : Int32)))]) rfl ?_
    refine XS.iloadN X0.here hx rfl (hb hby dj45_6) rfl ?_
    refine XS.bipush X0.here hx rfl (hb hby dj45_7) ?_
    exact kk)
  by_cases hc101 : (q &&& (255 : Int32)) = (33 : Int32)
  · obtain ⟨fs, hr, hrun, hended, hW, hsame⟩ := X0.leave (v := some (.int (nar .char (((q &&& (255 : Int32)) + (1 : Int32)).toUInt32.toUInt16.toUInt32.toInt32)))) (fun hq => by rw [Bd.returns] at hq; cases hq)
    refine ⟨_, _, pre102 _ ?_, hrun, hended, _, _, rfl, ?_, ⟨_, rfl⟩, hW, hsame.mono (by decide) (by decide)⟩
    · show SP pg ev below (s₁.setTop (mkF mi 9 #[.val (.int q), .val (.int (q &&& (255 : Int32)))] [(.int 33), (.int (q &&& (255 : Int32)))])) _
      refine XS.icmpYes X0.here hx rfl (pc0 := 9) (pc' := 18) rfl (hb hby dj45_9) rfl (teq hc101).1 (by decide) (by decide) ?_
      refine XS.iloadN X0.here hx rfl (hb hby dj45_18) rfl ?_
      refine XS.iconst X0.here hx rfl (hb hby dj45_19) ?_
      refine XS.iadd X0.here hx rfl (hb hby dj45_20) rfl ?_
      refine XS.istoreN X0.here hx rfl (hb hby dj45_21) rfl (l' := #[.val (.int q), .val (.int ((q &&& (255 : Int32)) + (1 : Int32)))]) rfl ?_
      refine XS.iloadN X0.here hx rfl (hb hby dj45_22) rfl ?_
      refine XS.i2c X0.here hx rfl (hb hby dj45_23) rfl ?_
      show SP pg ev below (s₁.setTop (mkF mi 24 #[.val (.int q), .val (.int ((q &&& (255 : Int32)) + (1 : Int32)))] [(.int (((q &&& (255 : Int32)) + (1 : Int32)).toUInt32.toUInt16.toUInt32.toInt32))])) _
      exact retN X0 hx (t := .char) Bd.returns (by simp) (hb hby dj45_24) hr
    · show Q_chc Z q hE n0 _ s₁.heap _
      rw [eE]
      exact ⟨(congrArg (fun z => some (Value.int z)) (own_ch33 (by rw [hc101]; decide) hc101)), N0, rfl⟩
  · have pre104 : ∀ tt, SP pg ev below (s₁.setTop (mkF mi 15 #[.val (.int q), .val (.int (q &&& (255 : Int32)))] [(.int 47), (.int (q &&& (255 : Int32)))])) tt → SP pg ev below (s₁.setTop (entryFrame mi #[(.int q)] 2)) tt := fun tt kk => pre102 _ (by
      show SP pg ev below (s₁.setTop (mkF mi 9 #[.val (.int q), .val (.int (q &&& (255 : Int32)))] [(.int 33), (.int (q &&& (255 : Int32)))])) _
      refine XS.icmpNo X0.here hx rfl (hb hby dj45_9) rfl (feq hc101).1 ?_
      refine XS.iloadN X0.here hx rfl (hb hby dj45_12) rfl ?_
      refine XS.bipush X0.here hx rfl (hb hby dj45_13) ?_
      exact kk)
    by_cases hc103 : (q &&& (255 : Int32)) = (47 : Int32)
    · obtain ⟨fs, hr, hrun, hended, hW, hsame⟩ := X0.leave (v := some (.int (nar .char (((q &&& (255 : Int32)) + (1 : Int32)).toUInt32.toUInt16.toUInt32.toInt32)))) (fun hq => by rw [Bd.returns] at hq; cases hq)
      refine ⟨_, _, pre104 _ ?_, hrun, hended, _, _, rfl, ?_, ⟨_, rfl⟩, hW, hsame.mono (by decide) (by decide)⟩
      · show SP pg ev below (s₁.setTop (mkF mi 15 #[.val (.int q), .val (.int (q &&& (255 : Int32)))] [(.int 47), (.int (q &&& (255 : Int32)))])) _
        refine XS.icmpNo X0.here hx rfl (hb hby dj45_15) rfl (teq hc103).2 ?_
        refine XS.iloadN X0.here hx rfl (hb hby dj45_18) rfl ?_
        refine XS.iconst X0.here hx rfl (hb hby dj45_19) ?_
        refine XS.iadd X0.here hx rfl (hb hby dj45_20) rfl ?_
        refine XS.istoreN X0.here hx rfl (hb hby dj45_21) rfl (l' := #[.val (.int q), .val (.int ((q &&& (255 : Int32)) + (1 : Int32)))]) rfl ?_
        refine XS.iloadN X0.here hx rfl (hb hby dj45_22) rfl ?_
        refine XS.i2c X0.here hx rfl (hb hby dj45_23) rfl ?_
        show SP pg ev below (s₁.setTop (mkF mi 24 #[.val (.int q), .val (.int ((q &&& (255 : Int32)) + (1 : Int32)))] [(.int (((q &&& (255 : Int32)) + (1 : Int32)).toUInt32.toUInt16.toUInt32.toInt32))])) _
        exact retN X0 hx (t := .char) Bd.returns (by simp) (hb hby dj45_24) hr
      · show Q_chc Z q hE n0 _ s₁.heap _
        rw [eE]
        exact ⟨(congrArg (fun z => some (Value.int z)) (own_ch47 hc103)), N0, rfl⟩
    · obtain ⟨fs, hr, hrun, hended, hW, hsame⟩ := X0.leave (v := some (.int (nar .char ((q &&& (255 : Int32)).toUInt32.toUInt16.toUInt32.toInt32)))) (fun hq => by rw [Bd.returns] at hq; cases hq)
      refine ⟨_, _, pre104 _ ?_, hrun, hended, _, _, rfl, ?_, ⟨_, rfl⟩, hW, hsame.mono (by decide) (by decide)⟩
      · show SP pg ev below (s₁.setTop (mkF mi 15 #[.val (.int q), .val (.int (q &&& (255 : Int32)))] [(.int 47), (.int (q &&& (255 : Int32)))])) _
        refine XS.icmpYes X0.here hx rfl (pc0 := 15) (pc' := 22) rfl (hb hby dj45_15) rfl (feq hc103).2 (by decide) (by decide) ?_
        refine XS.iloadN X0.here hx rfl (hb hby dj45_22) rfl ?_
        refine XS.i2c X0.here hx rfl (hb hby dj45_23) rfl ?_
        show SP pg ev below (s₁.setTop (mkF mi 24 #[.val (.int q), .val (.int (q &&& (255 : Int32)))] [(.int ((q &&& (255 : Int32)).toUInt32.toUInt16.toUInt32.toInt32))])) _
        exact retN X0 hx (t := .char) Bd.returns (by simp) (hb hby dj45_24) hr
      · show Q_chc Z q hE n0 _ s₁.heap _
        rw [eE]
        exact ⟨(congrArg (fun z => some (Value.int z)) (own_ch0 hc103 hc101)), N0, rfl⟩
theorem dj9_0 : decode jc9 0 = .ok (.aload_n 0, 1) := by decide +kernel
theorem dj9_1 : decode jc9 1 = .ok (.invokespecial 1, 3) := by decide +kernel
theorem dj9_4 : decode jc9 4 = .ok (.aload_n 0, 1) := by decide +kernel
theorem dj9_5 : decode jc9 5 = .ok (.aload_n 1, 1) := by decide +kernel
theorem dj9_6 : decode jc9 6 = .ok (.putfield 9, 3) := by decide +kernel
theorem dj9_9 : decode jc9 9 = .ok (.aload_n 0, 1) := by decide +kernel
theorem dj9_10 : decode jc9 10 = .ok (.iload_n 2, 1) := by decide +kernel
theorem dj9_11 : decode jc9 11 = .ok (.putfield 15, 3) := by decide +kernel
theorem dj9_14 : decode jc9 14 = .ok (.return_, 1) := by decide +kernel
theorem ef_sbb (mi : MethodId) (a : Addr) (t : Addr) : entryFrame mi #[(.ref a), (.ref t), (.int 0)] 3 = mkF mi 0 #[.val (.ref a), .val (.ref t), .val (.int 0)] [] := rfl
def Q_sbb (Z : State) (a t : Addr) (hE : Heap) (n0 : Nat) (vv : Option Value) (hh : Heap) (LL : List Loc) : Prop := (vv = none) ∧ (Fr n0 LL) ∧ (Keep hE hh [a]) ∧ (Exa Z hh a c1_) ∧ (Fld Z hh a c1_ "value" "[B" (.ref t)) ∧ (Fld Z hh a c1_ "coder" "B" (.int 0))
theorem rm_sbb (hw : HW a0 Z) (ws : List Cond) (a t : Addr) (hE : Heap) (n0 : Nat) (O : Old Z n0 hE) (P0_ : Exa Z hE a c1_) (P1_ : Fld Z hE a c1_ "value" "[B" .null) (P2_ : Fld Z hE a c1_ "coder" "B" (.int 0)) (g_a : n0 ≤ a) :
    MF la Z hE mn31 jc9 3 none ws (rr 1 0 0 12) #[(.ref a), (.ref t), (.int 0)] (Q_sbb Z a t hE n0) := by
  refine MetFree.of_bodySF (plainFor_of_name pn_java_lang_String) hisR ?_
  intro pg ev sb mi gs below me cd s₁ Bd hml0 hPt hKt
  obtain ⟨rfl, hZ, hh⟩ := hPt
  have hx := Bd.exec
  have hby := Bd.bytes
  have hml : cd.maxLocals = 3 := hml0
  have hown : sb.vm.findClass c1_ = some mi.cls := findClass_of_methodNamed Bd.named
  have hnm := (name_of_methodNamed Bd.named Bd.method).1
  have X0 : Stand pg la ev (rr 1 0 0 12) sb mi #[(.ref a), (.ref t), (.int 0)] below me cd s₁ [] 0 0 := Stand.of_body Bd
  have eE : s₁.heap = hE := by rw [← hh, Bd.state]; rfl
  have N0 := Fr.nil n0
  have pre0 : ∀ tt, SP pg ev below (s₁.setTop (mkF mi 0 #[.val (.ref a), .val (.ref t), .val (.int 0)] [])) tt → SP pg ev below (s₁.setTop (entryFrame mi #[(.ref a), (.ref t), (.int 0)] 3)) tt := fun tt kk => castTop (ef_sbb mi a t) kk
  obtain ⟨T101, X101, e101, st101⟩ := initO X0 hx hZ hown (wd23 hw) (wd24 hw) (wd25 hw) eE (g := (mkF mi 1 #[.val (.ref a), .val (.ref t), .val (.int 0)] [(.ref a)])) rfl (by rw [hml]; rfl) rfl (hb hby dj9_1) (by decide) (W := 0) (Nat.le_of_ble_eq_true rfl) (by decide)
  obtain ⟨T102, h102, X102, e102, W102, st102⟩ := putF X101 hx hZ hown (host := "") (Or.inl (wd26 hw)) Via.refl e101 P1_ P0_ (Or.inr ⟨(wd27 hw), rfl, hnm⟩) (wd14 hw) (ty := (.array .byte)) (by decide) rfl rfl (g := (mkF mi 6 #[.val (.ref a), .val (.ref t), .val (.int 0)] [(.ref t), (.ref a)])) rfl rfl (hb hby dj9_6)
  have N102 := Fr.snoc X102 N0 g_a
  have f103 : Fld Z h102 a c1_ "value" "[B" (.ref t) := P1_.same W102
  have f104 : Exa Z h102 a c1_ := (P0_.keep (Keep.of_wr W102))
  have f105 : Fld Z h102 a c1_ "coder" "B" (.int 0) := (P2_.other W102 (Or.inr (slot_ne (Or.inr (wd29 hw)) (Or.inr (wd27 hw)) (by decide) (t := .byte) (t' := (.array .byte)) (by decide) (by decide))))
  obtain ⟨T106, h106, X106, e106, W106, st106⟩ := putFN X102 hx hZ hown (wd28 hw) Via.refl e102 f105 f104 (Or.inr ⟨(wd29 hw), rfl, hnm⟩) (wd14 hw) (ty := .byte) (v' := (.int 0)) (by decide) rfl rfl (g := (mkF mi 11 #[.val (.ref a), .val (.ref t), .val (.int 0)] [(.int 0), (.ref a)])) rfl rfl (hb hby dj9_11)
  have N106 := Fr.snoc X106 N102 g_a
  have f107 : Fld Z h106 a c1_ "coder" "B" (.int 0) := f105.same W106
  have f108 : Exa Z h106 a c1_ := (f104.keep (Keep.of_wr W106))
  have f109 : Fld Z h106 a c1_ "value" "[B" (.ref t) := (f103.other W106 (Or.inr (slot_ne (Or.inr (wd27 hw)) (Or.inr (wd29 hw)) (by decide) (t := (.array .byte)) (t' := .byte) (by decide) (by decide))))
  obtain ⟨fs, hr, hrun, hended, hW, hsame⟩ := X106.leave (v := none) (fun _ => rfl)
  refine ⟨_, _, pre0 _ ?_, hrun, hended, _, _, rfl, ?_, ⟨_, rfl⟩, hW, hsame.mono (by decide) (by decide)⟩
  · show SP pg ev below (s₁.setTop (mkF mi 0 #[.val (.ref a), .val (.ref t), .val (.int 0)] [])) _
    refine XS.aloadN X0.here hx rfl (hb hby dj9_0) rfl rfl ?_
    refine st101 _ ?_
    refine XS.aloadN X101.here hx rfl (hb hby dj9_4) rfl rfl ?_
    refine XS.aloadN X101.here hx rfl (hb hby dj9_5) rfl rfl ?_
    refine st102 _ ?_
    refine XS.aloadN X102.here hx rfl (hb hby dj9_9) rfl rfl ?_
    refine XS.iloadN X102.here hx rfl (hb hby dj9_10) rfl ?_
    refine st106 _ ?_
    show SP pg ev below (T106.setTop (mkF mi 14 #[.val (.ref a), .val (.ref t), .val (.int 0)] [])) _
    exact X106.returnOut hx Bd.returns (hb hby dj9_14) hr
  · show Q_sbb Z a t hE n0 _ T106.heap _
    rw [e106]
    exact ⟨rfl, N106, (((Keep.refl hE [a]).trans (Keep.of_wr W102) (allS (Or.inl (List.mem_of_getElem? (i := 0) rfl)) all0)).trans (Keep.of_wr W106) (allS (Or.inl (List.mem_of_getElem? (i := 0) rfl)) all0)), f108, f109, f107⟩
theorem dj39_0 : decode jc39 0 = .ok (.iload_n 0, 1) := by decide +kernel
theorem dj39_1 : decode jc39 1 = .ok (.sipush 255, 3) := by decide +kernel
theorem dj39_4 : decode jc39 4 = .ok (.if_icmp .gt 7, 3) := by decide +kernel
theorem dj39_7 : decode jc39 7 = .ok (.iconst 1, 1) := by decide +kernel
theorem dj39_8 : decode jc39 8 = .ok (.goto 4, 3) := by decide +kernel
theorem dj39_12 : decode jc39 12 = .ok (.ireturn, 1) := by decide +kernel
theorem ef_cenc (mi : MethodId) (c : Int32) : entryFrame mi #[(.int c)] 1 = mkF mi 0 #[.val (.int c)] [] := rfl
def Q_cenc (Z : State) (c : Int32) (hE : Heap) (n0 : Nat) (vv : Option Value) (hh : Heap) (LL : List Loc) : Prop := (vv = some (.int 1)) ∧ (Fr n0 LL) ∧ (hh = hE)
theorem rm_cenc (hw : HW a0 Z) (ws : List Cond) (c : Int32) (hE : Heap) (n0 : Nat) (O : Old Z n0 hE) (hbb : ¬ ((255 : Int32) < c)) :
    MF la Z hE mn32 jc39 1 (some .boolean) ws (rr 0 0 0 0) #[(.int c)] (Q_cenc Z c hE n0) := by
  refine MetFree.of_bodySF (plainFor_of_name pn_java_lang_StringLatin1) hisR ?_
  intro pg ev sb mi gs below me cd s₁ Bd hml0 hPt hKt
  obtain ⟨rfl, hZ, hh⟩ := hPt
  have hx := Bd.exec
  have hby := Bd.bytes
  have hml : cd.maxLocals = 1 := hml0
  have hown : sb.vm.findClass c7_ = some mi.cls := findClass_of_methodNamed Bd.named
  have X0 : Stand pg la ev (rr 0 0 0 0) sb mi #[(.int c)] below me cd s₁ [] 0 0 := Stand.of_body Bd
  have eE : s₁.heap = hE := by rw [← hh, Bd.state]; rfl
  have N0 := Fr.nil n0
  have pre0 : ∀ tt, SP pg ev below (s₁.setTop (mkF mi 0 #[.val (.int c)] [])) tt → SP pg ev below (s₁.setTop (entryFrame mi #[(.int c)] 1)) tt := fun tt kk => castTop (ef_cenc mi c) kk
  obtain ⟨fs, hr, hrun, hended, hW, hsame⟩ := X0.leave (v := some (.int 1)) (fun hq => by rw [Bd.returns] at hq; cases hq)
  refine ⟨_, _, pre0 _ ?_, hrun, hended, _, _, rfl, ?_, ⟨_, rfl⟩, hW, hsame.mono (by decide) (by decide)⟩
  · show SP pg ev below (s₁.setTop (mkF mi 0 #[.val (.int c)] [])) _
    refine XS.iloadN X0.here hx rfl (hb hby dj39_0) rfl ?_
    refine XS.sipush X0.here hx rfl (hb hby dj39_1) ?_
    refine XS.icmpNo X0.here hx rfl (hb hby dj39_4) rfl (flt hbb).2.2.1 ?_
    refine XS.iconst X0.here hx rfl (hb hby dj39_7) ?_
    refine XS.goto X0.here hx rfl (pc0 := 8) (pc' := 12) rfl (hb hby dj39_8) (by decide) (by decide) ?_
    show SP pg ev below (s₁.setTop (mkF mi 12 #[.val (.int c)] [(.int 1)])) _
    exact retN X0 hx (t := .boolean) Bd.returns (by simp) (hb hby dj39_12) hr
  · show Q_cenc Z c hE n0 _ s₁.heap _
    rw [eE]
    exact ⟨rfl, N0, rfl⟩
theorem dj27_0 : decode jc27 0 = .ok (.iconst 1, 1) := by decide +kernel
theorem dj27_1 : decode jc27 1 = .ok (.newarray .byte, 2) := by decide +kernel
theorem dj27_3 : decode jc27 3 = .ok (.dup, 1) := by decide +kernel
theorem dj27_4 : decode jc27 4 = .ok (.iconst 0, 1) := by decide +kernel
theorem dj27_5 : decode jc27 5 = .ok (.iload_n 0, 1) := by decide +kernel
theorem dj27_6 : decode jc27 6 = .ok (.i2b, 1) := by decide +kernel
theorem dj27_7 : decode jc27 7 = .ok (.bastore, 1) := by decide +kernel
theorem dj27_8 : decode jc27 8 = .ok (.areturn, 1) := by decide +kernel
theorem ef_tob (mi : MethodId) (c : Int32) : entryFrame mi #[(.int c)] 1 = mkF mi 0 #[.val (.int c)] [] := rfl
def Q_tob (Z : State) (c : Int32) (hE : Heap) (n0 : Nat) (vv : Option Value) (hh : Heap) (LL : List Loc) : Prop := ∃ t : Addr, ∃ kt : ClassId, (vv = some (.ref t)) ∧ (Fr n0 LL) ∧ (Keep hE hh []) ∧ (hE.size ≤ t) ∧ (Arv Z hh t kt .byte (1 : Int32) [(.int c.toInt8.toInt32)] (.int 0))
theorem rm_tob (hw : HW a0 Z) (ws : List Cond) (c : Int32) (hE : Heap) (n0 : Nat) (O : Old Z n0 hE) :
    MF la Z hE mn33 jc27 1 (some (.array .byte)) ws (rr 0 1 1 0) #[(.int c)] (Q_tob Z c hE n0) := by
  refine MetFree.of_bodySF (plainFor_of_name pn_java_lang_StringLatin1) hisR ?_
  intro pg ev sb mi gs below me cd s₁ Bd hml0 hPt hKt
  obtain ⟨rfl, hZ, hh⟩ := hPt
  have hx := Bd.exec
  have hby := Bd.bytes
  have hml : cd.maxLocals = 1 := hml0
  have hown : sb.vm.findClass c7_ = some mi.cls := findClass_of_methodNamed Bd.named
  have X0 : Stand pg la ev (rr 0 1 1 0) sb mi #[(.int c)] below me cd s₁ [] 0 0 := Stand.of_body Bd
  have eE : s₁.heap = hE := by rw [← hh, Bd.state]; rfl
  have N0 := Fr.nil n0
  have pre0 : ∀ tt, SP pg ev below (s₁.setTop (mkF mi 0 #[.val (.int c)] [])) tt → SP pg ev below (s₁.setTop (entryFrame mi #[(.int c)] 1)) tt := fun tt kk => castTop (ef_tob mi c) kk
  obtain ⟨T101, h101, k101, X101, e101, E101, A101, st101⟩ := newP (aty := .byte) X0 hx hZ (wd18 hw) eE (g := (mkF mi 1 #[.val (.int c)] [(.int 1)])) rfl (hb hby dj27_1) rfl (by decide) (cap := 1) (by decide) (by decide) (by decide) (by decide)
  obtain ⟨b101, q101⟩ : ∃ z, z = hE.size := ⟨_, rfl⟩
  rw [← q101] at A101 st101
  have f102 : Arv Z h101 b101 k101 .byte (1 : Int32) [(.int 0)] (.int 0) := (Arv.new A101 (by decide)).pad (pad_rep [] (.int 0) 1)
  obtain ⟨cl103, Ar103, qq103, Sz103, Nn103, Hh103, Gg103⟩ := id f102
  have hin103 : ¬ ((0 : Int32) < 0 ∨ cl103.slots.size ≤ ((0 : Int32)).toNatClampNeg) := inb_of Sz103 ⟨by decide, by decide⟩
  obtain ⟨T103, h103, X103, e103, W103, st103⟩ := stB X101 hx hZ e101 Ar103 (j := (0 : Int32)) hin103 (g := (mkF mi 7 #[.val (.int c)] [(.int (c.toInt8.toInt32)), (.int 0), (.ref b101), (.ref b101)])) rfl rfl (hb hby dj27_7)
  have g_b101 : n0 ≤ b101 := Nat.le_trans (Nat.le_trans (Nat.le_of_eq O.1.symm) O.2.1) (Nat.le_of_eq q101.symm)
  have N103 := Fr.snoc X103 N0 g_b101
  have f104 : Arv Z h103 b101 k101 .byte (1 : Int32) [(.int ((c.toInt8.toInt32)).toInt8.toInt32)] (.int 0) := Arv.set Ar103 qq103 Sz103 Nn103 Hh103 Gg103 (fits_nar_byte _) W103 0 rfl (Nat.le_of_ble_eq_true rfl)
  have f105 : Arv Z h103 b101 k101 .byte (1 : Int32) [(.int c.toInt8.toInt32)] (.int 0) := by simpa only [own_i8] using f104
  obtain ⟨fs, hr, hrun, hended, hW, hsame⟩ := X103.leave (v := some (.ref b101)) (fun hq => by rw [Bd.returns] at hq; cases hq)
  refine ⟨_, _, pre0 _ ?_, hrun, hended, _, _, rfl, ?_, ⟨_, rfl⟩, hW, hsame.mono (by decide) (by decide)⟩
  · show SP pg ev below (s₁.setTop (mkF mi 0 #[.val (.int c)] [])) _
    refine XS.iconst X0.here hx rfl (hb hby dj27_0) ?_
    refine st101 _ ?_
    refine XS.dup X101.here hx rfl (hb hby dj27_3) rfl rfl ?_
    refine XS.iconst X101.here hx rfl (hb hby dj27_4) ?_
    refine XS.iloadN X101.here hx rfl (hb hby dj27_5) rfl ?_
    refine XS.i2b X101.here hx rfl (hb hby dj27_6) rfl ?_
    refine st103 _ ?_
    show SP pg ev below (T103.setTop (mkF mi 8 #[.val (.int c)] [(.ref b101)])) _
    jvm_step X103.here [X103.here.top, hx, (hb hby dj27_8), X103.method', Bd.returns, Value.isRef, FieldType.isReference]
    first | (intro acts; rw [hr _ acts rfl rfl rfl]) | rw [hr _ _ rfl rfl rfl]
    exact Steps.refl _
  · show Q_tob Z c hE n0 _ T103.heap _
    rw [e103]
    exact ⟨b101, k101, rfl, N103, (((Keep.refl hE []).ext E101).trans (Keep.of_wr W103) (allS (Or.inr (Nat.le_of_eq q101.symm)) all0)), (Nat.le_of_eq q101.symm), f105⟩
theorem dj10_0 : decode jc10 0 = .ok (.getstatic 38, 3) := by decide +kernel
theorem dj10_3 : decode jc10 3 = .ok (.ifCond .eq 23, 3) := by decide +kernel
theorem dj10_6 : decode jc10 6 = .ok (.iload_n 0, 1) := by decide +kernel
theorem dj10_7 : decode jc10 7 = .ok (.invokestatic 1015, 3) := by decide +kernel
theorem dj10_10 : decode jc10 10 = .ok (.ifCond .eq 16, 3) := by decide +kernel
theorem dj10_13 : decode jc10 13 = .ok (.new 10, 3) := by decide +kernel
theorem dj10_16 : decode jc10 16 = .ok (.dup, 1) := by decide +kernel
theorem dj10_17 : decode jc10 17 = .ok (.iload_n 0, 1) := by decide +kernel
theorem dj10_18 : decode jc10 18 = .ok (.invokestatic 1018, 3) := by decide +kernel
theorem dj10_21 : decode jc10 21 = .ok (.iconst 0, 1) := by decide +kernel
theorem dj10_22 : decode jc10 22 = .ok (.invokespecial 209, 3) := by decide +kernel
theorem dj10_25 : decode jc10 25 = .ok (.areturn, 1) := by decide +kernel
theorem pd_19 : parseMethodDescriptor "(C)Z" = some ⟨[.char], some .boolean⟩ := by decide +kernel
theorem pd_20 : parseMethodDescriptor "(C)[B" = some ⟨[.char], some (.array .byte)⟩ := by decide +kernel
theorem pd_21 : parseMethodDescriptor "([BB)V" = some ⟨[(.array .byte), .byte], none⟩ := by decide +kernel
theorem ef_vof (mi : MethodId) (c : Int32) : entryFrame mi #[(.int c)] 1 = mkF mi 0 #[.val (.int c)] [] := rfl
def Q_vof (Z : State) (c zc : Int32) (hE : Heap) (n0 : Nat) (vv : Option Value) (hh : Heap) (LL : List Loc) : Prop := ∃ x : Addr, ∃ t : Addr, (vv = some (.ref x)) ∧ (Fr n0 LL) ∧ (Keep hE hh []) ∧ (hE.size ≤ x) ∧ (hE.size ≤ t) ∧ (LStr Z hh x t ([c] : List Int32))
theorem rm_vof (hw : HW a0 Z) (ws : List Cond) (c zc : Int32) (hE : Heap) (n0 : Nat) (O : Old Z n0 hE) (D0_ : Sta Z Z.heap c1_ c5_ "Z" (.int zc)) (hbb : ¬ ((255 : Int32) < c)) (hn : ¬ (c < (0 : Int32))) (hzc : ¬ (zc = (0 : Int32))) :
    MF la Z hE mn34 jc10 1 (some (.object c1_)) ws (rr 2 2 5 27) #[(.int c)] (Q_vof Z c zc hE n0) := by
  refine MetFree.of_bodySF (plainFor_of_name pn_java_lang_String) hisR ?_
  intro pg ev sb mi gs below me cd s₁ Bd hml0 hPt hKt
  obtain ⟨rfl, hZ, hh⟩ := hPt
  have hx := Bd.exec
  have hby := Bd.bytes
  have hml : cd.maxLocals = 1 := hml0
  have hown : sb.vm.findClass c1_ = some mi.cls := findClass_of_methodNamed Bd.named
  have X0 : Stand pg la ev (rr 2 2 5 27) sb mi #[(.int c)] below me cd s₁ [] 0 0 := Stand.of_body Bd
  have eE : s₁.heap = hE := by rw [← hh, Bd.state]; rfl
  have N0 := Fr.nil n0
  have pre0 : ∀ tt, SP pg ev below (s₁.setTop (mkF mi 0 #[.val (.int c)] [])) tt → SP pg ev below (s₁.setTop (entryFrame mi #[(.int c)] 1)) tt := fun tt kk => castTop (ef_vof mi c) kk
  obtain ⟨T101, X101, e101, st101⟩ := getS2 X0 hx hZ hown (host := "") (Or.inl (wd8 hw)) Via.refl eE (D0_.ext O.2) (g := (mkF mi 0 #[.val (.int c)] [])) rfl (hb hby dj10_0)
  obtain ⟨v102, _, ⟨T102, L102, k102, n102⟩, -, X102, ⟨Lc102, hQ102, l102, y102, z102⟩, st102⟩ := Jvm.LawKit.callS X101 hx (y := mn32) hown (mvT hZ (wd9 hw)) (mvT hZ (wd10 hw)) (mvT hZ (wd11 hw)) (mvT hZ (wd12 hw)) (by decide) (backOf (W := 0) (rm_cenc la Z a0 hw [] c hE n0 O (hbb : ¬ ((255 : Int32) < c))) hZ (wd12 hw) (wd11 hw) (by decide) (by decide)) (g := (mkF mi 7 #[.val (.int c)] [(.int c)])) rfl (by rw [hml]; rfl) (argsL := [(.int c)]) (rest := []) (lenOf pd_19 rfl) rfl (Nat.le_of_ble_eq_true rfl) (hb hby dj10_7) (fun _ _ => ⟨rfl, e101, (by decide : 0 + 0 ≤ _), (by decide : 0 + 0 ≤ _)⟩)
  dsimp only [Pt.U, Pt.locs, Pt.cells, Pt.slots] at X102 l102 y102 z102 st102 hQ102
  subst l102 y102 z102
  obtain ⟨rfl, Nq102, ek102⟩ := hQ102
  have N102 := Fr.app N0 Nq102
  obtain ⟨T103, h103, X103, e103, E103, A103, D103, -, st103⟩ := newO X102 hx hZ hown (wd13 hw) (wd14 hw) (wd6 hw) ek102 (g := (mkF mi 13 #[.val (.int c)] [])) rfl (hb hby dj10_13) (by decide) (by decide)
  obtain ⟨b103, q103⟩ : ∃ z, z = hE.size := ⟨_, rfl⟩
  rw [← q103] at A103 D103 st103
  have f104 : Fld Z h103 b103 c1_ "value" "[B" .null := D103 (Or.inr (wd27 hw)) (ty := (.array .byte)) (by decide)
  have f105 : Fld Z h103 b103 c1_ "coder" "B" (.int 0) := D103 (Or.inr (wd29 hw)) (ty := .byte) (by decide)
  have O106 : Old Z n0 h103 := (O.ext E103)
  obtain ⟨v107, _, ⟨T107, L107, k107, n107⟩, -, X107, ⟨Lc107, hQ107, l107, y107, z107⟩, st107⟩ := Jvm.LawKit.callS X103 hx (y := mn33) hown (mvT hZ (wd15 hw)) (mvT hZ (wd16 hw)) (mvT hZ (wd11 hw)) (mvT hZ (wd17 hw)) (by decide) (backOf (W := 2) (rm_tob la Z a0 hw [] c h103 n0 O106) hZ (wd17 hw) (wd11 hw) (by decide) (by decide)) (g := (mkF mi 18 #[.val (.int c)] [(.int c), (.ref b103), (.ref b103)])) rfl (by rw [hml]; rfl) (argsL := [(.int c)]) (rest := [(.ref b103), (.ref b103)]) (lenOf pd_20 rfl) rfl (Nat.le_of_ble_eq_true rfl) (hb hby dj10_18) (fun _ _ => ⟨rfl, e103, (by decide : 1 + 1 ≤ _), (by decide : 4 + 1 ≤ _)⟩)
  dsimp only [Pt.U, Pt.locs, Pt.cells, Pt.slots] at X107 l107 y107 z107 st107 hQ107
  subst l107 y107 z107
  obtain ⟨t_107, kt_107, rfl, Nq107, Kq107, fr_t_107, r107_0⟩ := hQ107
  have N107 := Fr.app N102 Nq107
  have O108 : Old Z n0 T107.heap := (O106.keep Kq107 all0)
  have f109 : Exa Z T107.heap b103 c1_ := (A103.keep Kq107)
  have f110 : Fld Z T107.heap b103 c1_ "value" "[B" .null := (f104.keep Kq107 nin0)
  have f111 : Fld Z T107.heap b103 c1_ "coder" "B" (.int 0) := (f105.keep Kq107 nin0)
  have g_b103 : n0 ≤ b103 := Nat.le_trans (Nat.le_trans (Nat.le_of_eq O.1.symm) O.2.1) (Nat.le_of_eq q103.symm)
  obtain ⟨v112, _, ⟨T112, L112, k112, n112⟩, -, X112, ⟨Lc112, hQ112, l112, y112, z112⟩, st112⟩ := X107.specialBack hx (y := mn31) rfl hown (mvT hZ (wd19 hw)) (mvT hZ (wd20 hw)) (mvT hZ (wd22 hw)) (by decide) (backOf (W := 1) (rm_sbb la Z a0 hw [] b103 t_107 T107.heap n0 O108 f109 f110 f111 g_b103) hZ (wd22 hw) (wd6 hw) (by decide) (by decide)) (g := (mkF mi 22 #[.val (.int c)] [(.int 0), (.ref t_107), (.ref b103), (.ref b103)])) rfl (by rw [hml]; rfl) (Steps.refl _) (a := b103) (argsL := [(.ref t_107), (.int 0)]) (rest := [(.ref b103)]) (lenOf pd_21 rfl) rfl (Nat.le_of_ble_eq_true rfl) (hb hby dj10_22) (fun _ _ => ⟨rfl, rfl, (by decide : 2 + 0 ≤ _), (by decide : 5 + 0 ≤ _)⟩)
  dsimp only [Pt.U, Pt.locs, Pt.cells, Pt.slots] at X112 l112 y112 z112 st112 hQ112
  subst l112 y112 z112
  obtain ⟨rfl, Nq112, Kq112, r112_0, r112_1, r112_2⟩ := hQ112
  have N112 := Fr.app N107 Nq112
  have ne_b103_t_107 : b103 ≠ t_107 := Nat.ne_of_lt (Nat.lt_of_lt_of_le A103.lt (Nat.le_trans (Nat.le_refl _) fr_t_107))
  have f113 : Arv Z T112.heap t_107 kt_107 .byte (1 : Int32) [(.int c.toInt8.toInt32)] (.int 0) := (r107_0.keep Kq112 (ninS (Ne.symm ne_b103_t_107) nin0))
  have s114 : LStr Z T112.heap b103 t_107 ([c] : List Int32) := ⟨r112_0, r112_1, r112_2, ⟨_, f113⟩, (by intro z hz; cases List.mem_singleton.mp hz; exact ⟨hn, hbb⟩), (Nat.le_of_ble_eq_true rfl)⟩
  obtain ⟨fs, hr, hrun, hended, hW, hsame⟩ := X112.leave (v := some (.ref b103)) (fun hq => by rw [Bd.returns] at hq; cases hq)
  refine ⟨_, _, pre0 _ ?_, hrun, hended, _, _, rfl, ?_, ⟨_, rfl⟩, hW, hsame.mono (by decide) (by decide)⟩
  · show SP pg ev below (s₁.setTop (mkF mi 0 #[.val (.int c)] [])) _
    refine st101 _ ?_
    refine XS.ifNo X101.here hx rfl (hb hby dj10_3) rfl ((if0 _ _).trans (feq hzc).1) ?_
    refine XS.iloadN X101.here hx rfl (hb hby dj10_6) rfl ?_
    refine st102 _ ?_
    refine XS.ifNo X102.here hx rfl (hb hby dj10_10) rfl ((if0 _ _).trans (feq (by decide : ¬ ((1 : Int32) = (0 : Int32)))).1) ?_
    refine st103 _ ?_
    refine XS.dup X103.here hx rfl (hb hby dj10_16) rfl rfl ?_
    refine XS.iloadN X103.here hx rfl (hb hby dj10_17) rfl ?_
    refine st107 _ ?_
    refine XS.iconst X107.here hx rfl (hb hby dj10_21) ?_
    refine st112.trans ?_
    show SP pg ev below (T112.setTop (mkF mi 25 #[.val (.int c)] [(.ref b103)])) _
    jvm_step X112.here [X112.here.top, hx, (hb hby dj10_25), X112.method', Bd.returns, Value.isRef, FieldType.isReference]
    first | (intro acts; rw [hr _ acts rfl rfl rfl]) | rw [hr _ _ rfl rfl rfl]
    exact Steps.refl _
  · show Q_vof Z c zc hE n0 _ T112.heap _
    exact ⟨b103, t_107, rfl, N112, ((((Keep.refl hE []).ext E103).trans Kq107 all0).trans Kq112 (allS (Or.inr (Nat.le_of_eq q103.symm)) all0)), (Nat.le_of_eq q103.symm), (Nat.le_trans E103.1 fr_t_107), s114⟩
theorem dj40_0 : decode jc40 0 = .ok (.aload_n 0, 1) := by decide +kernel
theorem dj40_1 : decode jc40 1 = .ok (.invokespecial 1, 3) := by decide +kernel
theorem dj40_4 : decode jc40 4 = .ok (.return_, 1) := by decide +kernel
theorem pn_java_lang_Record : plainName "java/lang/Record" = true := by first | (simp [plainName, overriddenIn]; done) | decide +kernel
theorem ef_rec (mi : MethodId) (a : Addr) : entryFrame mi #[(.ref a)] 1 = mkF mi 0 #[.val (.ref a)] [] := rfl
def Q_rec (Z : State) (a : Addr) (hE : Heap) (n0 : Nat) (vv : Option Value) (hh : Heap) (LL : List Loc) : Prop := (vv = none) ∧ (Fr n0 LL) ∧ (hh = hE)
theorem rm_rec (hw : HW a0 Z) (ws : List Cond) (a : Addr) (hE : Heap) (n0 : Nat) (O : Old Z n0 hE) :
    MF la Z hE mn35 jc40 1 none ws (rr 1 0 0 12) #[(.ref a)] (Q_rec Z a hE n0) := by
  refine MetFree.of_bodySF (plainFor_of_name pn_java_lang_Record) hisR ?_
  intro pg ev sb mi gs below me cd s₁ Bd hml0 hPt hKt
  obtain ⟨rfl, hZ, hh⟩ := hPt
  have hx := Bd.exec
  have hby := Bd.bytes
  have hml : cd.maxLocals = 1 := hml0
  have hown : sb.vm.findClass c29_ = some mi.cls := findClass_of_methodNamed Bd.named
  have X0 : Stand pg la ev (rr 1 0 0 12) sb mi #[(.ref a)] below me cd s₁ [] 0 0 := Stand.of_body Bd
  have eE : s₁.heap = hE := by rw [← hh, Bd.state]; rfl
  have N0 := Fr.nil n0
  have pre0 : ∀ tt, SP pg ev below (s₁.setTop (mkF mi 0 #[.val (.ref a)] [])) tt → SP pg ev below (s₁.setTop (entryFrame mi #[(.ref a)] 1)) tt := fun tt kk => castTop (ef_rec mi a) kk
  obtain ⟨T101, X101, e101, st101⟩ := initO X0 hx hZ hown (wd41 hw) (wd24 hw) (wd25 hw) eE (g := (mkF mi 1 #[.val (.ref a)] [(.ref a)])) rfl (by rw [hml]; rfl) rfl (hb hby dj40_1) (by decide) (W := 0) (Nat.le_of_ble_eq_true rfl) (by decide)
  obtain ⟨fs, hr, hrun, hended, hW, hsame⟩ := X101.leave (v := none) (fun _ => rfl)
  refine ⟨_, _, pre0 _ ?_, hrun, hended, _, _, rfl, ?_, ⟨_, rfl⟩, hW, hsame.mono (by decide) (by decide)⟩
  · show SP pg ev below (s₁.setTop (mkF mi 0 #[.val (.ref a)] [])) _
    refine XS.aloadN X0.here hx rfl (hb hby dj40_0) rfl rfl ?_
    refine st101 _ ?_
    show SP pg ev below (T101.setTop (mkF mi 4 #[.val (.ref a)] [])) _
    exact X101.returnOut hx Bd.returns (hb hby dj40_4) hr
  · show Q_rec Z a hE n0 _ T101.heap _
    rw [e101]
    exact ⟨rfl, N0, rfl⟩
theorem dj28_0 : decode jc28 0 = .ok (.aload_n 0, 1) := by decide +kernel
theorem dj28_1 : decode jc28 1 = .ok (.ifnonnull 12, 3) := by decide +kernel
theorem dj28_13 : decode jc28 13 = .ok (.aload_n 0, 1) := by decide +kernel
theorem dj28_14 : decode jc28 14 = .ok (.areturn, 1) := by decide +kernel
theorem pn_java_util_Objects : plainName "java/util/Objects" = true := by first | (simp [plainName, overriddenIn]; done) | decide +kernel
theorem ef_rnn2 (mi : MethodId) (a : Addr) (b : Addr) : entryFrame mi #[(.ref a), (.ref b)] 2 = mkF mi 0 #[.val (.ref a), .val (.ref b)] [] := rfl
def Q_rnn2 (Z : State) (a b : Addr) (hE : Heap) (n0 : Nat) (vv : Option Value) (hh : Heap) (LL : List Loc) : Prop := (vv = some (.ref a)) ∧ (Fr n0 LL) ∧ (hh = hE)
theorem rm_rnn2 (hw : HW a0 Z) (ws : List Cond) (a b : Addr) (hE : Heap) (n0 : Nat) (O : Old Z n0 hE) :
    MF la Z hE mn36 jc28 2 (some (.object c17_)) ws (rr 0 0 0 0) #[(.ref a), (.ref b)] (Q_rnn2 Z a b hE n0) := by
  refine MetFree.of_bodySF (plainFor_of_name pn_java_util_Objects) hisR ?_
  intro pg ev sb mi gs below me cd s₁ Bd hml0 hPt hKt
  obtain ⟨rfl, hZ, hh⟩ := hPt
  have hx := Bd.exec
  have hby := Bd.bytes
  have hml : cd.maxLocals = 2 := hml0
  have hown : sb.vm.findClass "java/util/Objects" = some mi.cls := findClass_of_methodNamed Bd.named
  have X0 : Stand pg la ev (rr 0 0 0 0) sb mi #[(.ref a), (.ref b)] below me cd s₁ [] 0 0 := Stand.of_body Bd
  have eE : s₁.heap = hE := by rw [← hh, Bd.state]; rfl
  have N0 := Fr.nil n0
  have pre0 : ∀ tt, SP pg ev below (s₁.setTop (mkF mi 0 #[.val (.ref a), .val (.ref b)] [])) tt → SP pg ev below (s₁.setTop (entryFrame mi #[(.ref a), (.ref b)] 2)) tt := fun tt kk => castTop (ef_rnn2 mi a b) kk
  obtain ⟨fs, hr, hrun, hended, hW, hsame⟩ := X0.leave (v := some (.ref a)) (fun hq => by rw [Bd.returns] at hq; cases hq)
  refine ⟨_, _, pre0 _ ?_, hrun, hended, _, _, rfl, ?_, ⟨_, rfl⟩, hW, hsame.mono (by decide) (by decide)⟩
  · show SP pg ev below (s₁.setTop (mkF mi 0 #[.val (.ref a), .val (.ref b)] [])) _
    refine XS.aloadN X0.here hx rfl (hb hby dj28_0) rfl rfl ?_
    refine XS.ifnonnullYes X0.here hx rfl (pc0 := 1) (pc' := 13) rfl (hb hby dj28_1) rfl (by decide) (by decide) ?_
    refine XS.aloadN X0.here hx rfl (hb hby dj28_13) rfl rfl ?_
    show SP pg ev below (s₁.setTop (mkF mi 14 #[.val (.ref a), .val (.ref b)] [(.ref a)])) _
    jvm_step X0.here [X0.here.top, hx, (hb hby dj28_14), X0.method', Bd.returns, Value.isRef, FieldType.isReference]
    first | (intro acts; rw [hr _ acts rfl rfl rfl]) | rw [hr _ _ rfl rfl rfl]
    exact Steps.refl _
  · show Q_rnn2 Z a b hE n0 _ s₁.heap _
    rw [eE]
    exact ⟨rfl, N0, rfl⟩
theorem dj11_0 : decode jc11 0 = .ok (.aload_n 0, 1) := by decide +kernel
theorem dj11_1 : decode jc11 1 = .ok (.areturn, 1) := by decide +kernel
theorem ef_sts (mi : MethodId) (x : Addr) : entryFrame mi #[(.ref x)] 1 = mkF mi 0 #[.val (.ref x)] [] := rfl
def Q_sts (Z : State) (x : Addr) (hE : Heap) (n0 : Nat) (vv : Option Value) (hh : Heap) (LL : List Loc) : Prop := (vv = some (.ref x)) ∧ (Fr n0 LL) ∧ (hh = hE)
theorem rm_sts (hw : HW a0 Z) (ws : List Cond) (x : Addr) (hE : Heap) (n0 : Nat) (O : Old Z n0 hE) :
    MF la Z hE mn37 jc11 1 (some (.object c1_)) ws (rr 0 0 0 0) #[(.ref x)] (Q_sts Z x hE n0) := by
  refine MetFree.of_bodySF (plainFor_of_name pn_java_lang_String) hisR ?_
  intro pg ev sb mi gs below me cd s₁ Bd hml0 hPt hKt
  obtain ⟨rfl, hZ, hh⟩ := hPt
  have hx := Bd.exec
  have hby := Bd.bytes
  have hml : cd.maxLocals = 1 := hml0
  have hown : sb.vm.findClass c1_ = some mi.cls := findClass_of_methodNamed Bd.named
  have X0 : Stand pg la ev (rr 0 0 0 0) sb mi #[(.ref x)] below me cd s₁ [] 0 0 := Stand.of_body Bd
  have eE : s₁.heap = hE := by rw [← hh, Bd.state]; rfl
  have N0 := Fr.nil n0
  have pre0 : ∀ tt, SP pg ev below (s₁.setTop (mkF mi 0 #[.val (.ref x)] [])) tt → SP pg ev below (s₁.setTop (entryFrame mi #[(.ref x)] 1)) tt := fun tt kk => castTop (ef_sts mi x) kk
  obtain ⟨fs, hr, hrun, hended, hW, hsame⟩ := X0.leave (v := some (.ref x)) (fun hq => by rw [Bd.returns] at hq; cases hq)
  refine ⟨_, _, pre0 _ ?_, hrun, hended, _, _, rfl, ?_, ⟨_, rfl⟩, hW, hsame.mono (by decide) (by decide)⟩
  · show SP pg ev below (s₁.setTop (mkF mi 0 #[.val (.ref x)] [])) _
    refine XS.aloadN X0.here hx rfl (hb hby dj11_0) rfl rfl ?_
    show SP pg ev below (s₁.setTop (mkF mi 1 #[.val (.ref x)] [(.ref x)])) _
    jvm_step X0.here [X0.here.top, hx, (hb hby dj11_1), X0.method', Bd.returns, Value.isRef, FieldType.isReference]
    first | (intro acts; rw [hr _ acts rfl rfl rfl]) | rw [hr _ _ rfl rfl rfl]
    exact Steps.refl _
  · show Q_sts Z x hE n0 _ s₁.heap _
    rw [eE]
    exact ⟨rfl, N0, rfl⟩
theorem dj29_0 : decode jc29 0 = .ok (.aload_n 0, 1) := by decide +kernel
theorem dj29_1 : decode jc29 1 = .ok (.getfield 9, 3) := by decide +kernel
theorem dj29_4 : decode jc29 4 = .ok (.arraylength, 1) := by decide +kernel
theorem dj29_5 : decode jc29 5 = .ok (.ifCond .ne 7, 3) := by decide +kernel
theorem dj29_12 : decode jc29 12 = .ok (.iconst 0, 1) := by decide +kernel
theorem dj29_13 : decode jc29 13 = .ok (.ireturn, 1) := by decide +kernel
theorem ef_emp (mi : MethodId) (x : Addr) : entryFrame mi #[(.ref x)] 1 = mkF mi 0 #[.val (.ref x)] [] := rfl
def Q_emp (Z : State) (x t : Addr) (cs : List Int32) (hE : Heap) (n0 : Nat) (vv : Option Value) (hh : Heap) (LL : List Loc) : Prop := (vv = some (.int 0)) ∧ (Fr n0 LL) ∧ (hh = hE)
theorem rm_emp (hw : HW a0 Z) (ws : List Cond) (x t : Addr) (cs : List Int32) (hE : Heap) (n0 : Nat) (O : Old Z n0 hE) (P0_ : LStr Z hE x t cs) (hne : cs.length ≠ 0) :
    MF la Z hE mn38 jc29 1 (some .boolean) ws (rr 0 0 0 0) #[(.ref x)] (Q_emp Z x t cs hE n0) := by
  refine MetFree.of_bodySF (plainFor_of_name pn_java_lang_String) hisR ?_
  intro pg ev sb mi gs below me cd s₁ Bd hml0 hPt hKt
  obtain ⟨rfl, hZ, hh⟩ := hPt
  have hx := Bd.exec
  have hby := Bd.bytes
  have hml : cd.maxLocals = 1 := hml0
  have hown : sb.vm.findClass c1_ = some mi.cls := findClass_of_methodNamed Bd.named
  have X0 : Stand pg la ev (rr 0 0 0 0) sb mi #[(.ref x)] below me cd s₁ [] 0 0 := Stand.of_body Bd
  have eE : s₁.heap = hE := by rw [← hh, Bd.state]; rfl
  have N0 := Fr.nil n0
  have pre0 : ∀ tt, SP pg ev below (s₁.setTop (mkF mi 0 #[.val (.ref x)] [])) tt → SP pg ev below (s₁.setTop (entryFrame mi #[(.ref x)] 1)) tt := fun tt kk => castTop (ef_emp mi x) kk
  obtain ⟨sE101, sV101, sC101, ⟨kb101, sK101⟩, sb101, sl101⟩ := id P0_
  obtain ⟨T102, X102, e102, st102⟩ := getF X0 hx hZ hown (host := "") (Or.inl (wd26 hw)) Via.refl eE sV101 (g := (mkF mi 1 #[.val (.ref x)] [(.ref x)])) rfl rfl (hb hby dj29_1)
  obtain ⟨cl103, Ar103, -, Sz103, Nn103, -, -⟩ := id sK101
  obtain ⟨fs, hr, hrun, hended, hW, hsame⟩ := X102.leave (v := some (.int 0)) (fun hq => by rw [Bd.returns] at hq; cases hq)
  refine ⟨_, _, pre0 _ ?_, hrun, hended, _, _, rfl, ?_, ⟨_, rfl⟩, hW, hsame.mono (by decide) (by decide)⟩
  · show SP pg ev below (s₁.setTop (mkF mi 0 #[.val (.ref x)] [])) _
    refine XS.aloadN X0.here hx rfl (hb hby dj29_0) rfl rfl ?_
    refine st102 _ ?_
    refine X102.arraylength hx (cell := cl103) (by rw [e102]; exact Ar103.1) (State.isArrayOf_alike hZ.alike Ar103.2.1) (g := (mkF mi 4 #[.val (.ref x)] [(.ref t)])) rfl (rest := []) rfl (hb hby dj29_4) _ ?_
    rw [len_of Sz103 Nn103]
    refine XS.ifYes X102.here hx rfl (pc0 := 5) (pc' := 12) rfl (hb hby dj29_5) rfl ((if0 _ _).trans (feq (own_ne0 hne sl101)).2) (by decide) (by decide) ?_
    refine XS.iconst X102.here hx rfl (hb hby dj29_12) ?_
    show SP pg ev below (T102.setTop (mkF mi 13 #[.val (.ref x)] [(.int 0)])) _
    exact retN X102 hx (t := .boolean) Bd.returns (by simp) (hb hby dj29_13) hr
  · show Q_emp Z x t cs hE n0 _ T102.heap _
    rw [e102]
    exact ⟨rfl, N0, rfl⟩
theorem dj30_0 : decode jc30 0 = .ok (.aload_n 1, 1) := by decide +kernel
theorem dj30_1 : decode jc30 1 = .ok (.arraylength, 1) := by decide +kernel
theorem dj30_2 : decode jc30 2 = .ok (.ifCond .ne 5, 3) := by decide +kernel
theorem dj30_7 : decode jc30 7 = .ok (.aload_n 0, 1) := by decide +kernel
theorem dj30_8 : decode jc30 8 = .ok (.arraylength, 1) := by decide +kernel
theorem dj30_9 : decode jc30 9 = .ok (.ifCond .ne 5, 3) := by decide +kernel
theorem dj30_14 : decode jc30 14 = .ok (.aload_n 0, 1) := by decide +kernel
theorem dj30_15 : decode jc30 15 = .ok (.aload_n 0, 1) := by decide +kernel
theorem dj30_16 : decode jc30 16 = .ok (.arraylength, 1) := by decide +kernel
theorem dj30_17 : decode jc30 17 = .ok (.aload_n 1, 1) := by decide +kernel
theorem dj30_18 : decode jc30 18 = .ok (.aload_n 1, 1) := by decide +kernel
theorem dj30_19 : decode jc30 19 = .ok (.arraylength, 1) := by decide +kernel
theorem dj30_20 : decode jc30 20 = .ok (.iconst 0, 1) := by decide +kernel
theorem dj30_21 : decode jc30 21 = .ok (.invokestatic 99, 3) := by decide +kernel
theorem dj30_24 : decode jc30 24 = .ok (.ireturn, 1) := by decide +kernel
theorem pd_22 : parseMethodDescriptor "([BI[BII)I" = some ⟨[(.array .byte), .int, (.array .byte), .int, .int], some .int⟩ := by decide +kernel
theorem ef_ixc_47 (mi : MethodId) (t : Addr) (u : Addr) : entryFrame mi #[(.ref t), (.ref u)] 2 = mkF mi 0 #[.val (.ref t), .val (.ref u)] [] := rfl
def Q_ixc_47 (Z : State) (t u : Addr) (kt ku : ClassId) (cs : List Int32) (hE : Heap) (n0 : Nat) (vv : Option Value) (hh : Heap) (LL : List Loc) : Prop := (vv = some (.int (-1))) ∧ (Fr n0 LL) ∧ (hh = hE)
theorem rm_ixc_47 (hw : HW a0 Z) (ws : List Cond) (t u : Addr) (kt ku : ClassId) (cs : List Int32) (hE : Heap) (n0 : Nat) (O : Old Z n0 hE) (P0_ : Arv Z hE t kt .byte (Int32.ofNat cs.length) (cs.map fun c => Value.int c.toInt8.toInt32) (.int 0)) (P1_ : Arv Z hE u ku .byte (1 : Int32) [(.int 47)] (.int 0)) (hl : cs.length ≤ 4000) (hne : cs.length ≠ 0) (hd : ∀ c ∈ cs, ¬ ((c.toInt8.toInt32) = (47 : Int32))) :
    MF la Z hE mn40 jc30 2 (some .int) ws (rr 2 0 0 82) #[(.ref t), (.ref u)] (Q_ixc_47 Z t u kt ku cs hE n0) := by
  refine MetFree.of_bodySF (plainFor_of_name pn_java_lang_StringLatin1) hisR ?_
  intro pg ev sb mi gs below me cd s₁ Bd hml0 hPt hKt
  obtain ⟨rfl, hZ, hh⟩ := hPt
  have hx := Bd.exec
  have hby := Bd.bytes
  have hml : cd.maxLocals = 2 := hml0
  have hown : sb.vm.findClass c7_ = some mi.cls := findClass_of_methodNamed Bd.named
  have X0 : Stand pg la ev (rr 2 0 0 82) sb mi #[(.ref t), (.ref u)] below me cd s₁ [] 0 0 := Stand.of_body Bd
  have eE : s₁.heap = hE := by rw [← hh, Bd.state]; rfl
  have N0 := Fr.nil n0
  have pre0 : ∀ tt, SP pg ev below (s₁.setTop (mkF mi 0 #[.val (.ref t), .val (.ref u)] [])) tt → SP pg ev below (s₁.setTop (entryFrame mi #[(.ref t), (.ref u)] 2)) tt := fun tt kk => castTop (ef_ixc_47 mi t u) kk
  obtain ⟨cl101, Ar101, -, Sz101, Nn101, -, -⟩ := id P1_
  obtain ⟨cl102, Ar102, -, Sz102, Nn102, -, -⟩ := id P0_
  obtain ⟨cl103, Ar103, -, Sz103, Nn103, -, -⟩ := id P0_
  obtain ⟨cl104, Ar104, -, Sz104, Nn104, -, -⟩ := id P1_
  obtain ⟨v105, vw105, ⟨T105, L105, k105, n105⟩, hvw105, X105, ⟨⟨hh105, l105, y105, z105⟩, hv105⟩, st105⟩ := Jvm.LawKit.callS X0 hx (y := mn39) hown (mvT hZ (wd93 hw)) (mvT hZ (wd94 hw)) (mvT hZ (wd11 hw)) (mvT hZ (wd95 hw)) (by decide) (Jvm.Free.Str.IXS.pays (W := 0) (by decide) (by decide) (own_ixtab hw hZ) (mvT hZ (wd11 hw))) (g := (mkF mi 21 #[.val (.ref t), .val (.ref u)] [(.int 0), (.int 1), (.ref u), (.int (Int32.ofNat cs.length)), (.ref t)])) rfl (by rw [hml]; rfl) (argsL := [(.ref t), (.int (Int32.ofNat cs.length)), (.ref u), (.int 1), (.int 0)]) (rest := []) (lenOf pd_22 rfl) rfl (Nat.le_of_ble_eq_true rfl) (hb hby dj30_21) (fun vm₁ hvm => ⟨(by show (0 : Nat) ≤ _; decide), (by show (0 : Nat) ≤ _; decide), (Exists.imp (fun _ h => h.1) (own_ixq (U := s₁.setVm vm₁) (hZ.alike.trans hvm.alike) eE P0_ P1_ hl hd))⟩)
  dsimp only [Pt.U, Pt.locs, Pt.cells, Pt.slots] at X105 l105 y105 z105 st105 hh105 hv105
  obtain ⟨qx105, hq105, ha105⟩ := own_ixq (U := s₁.setVm vw105) (hZ.alike.trans hvw105.alike) eE P0_ P1_ hl hd
  have hvv105 := hv105 qx105 hq105
  rw [ha105] at hvv105
  subst hvv105 l105 y105 z105
  have hh105' : T105.heap = hE := hh105.trans eE
  obtain ⟨fs, hr, hrun, hended, hW, hsame⟩ := X105.leave (v := some (.int (-1))) (fun hq => by rw [Bd.returns] at hq; cases hq)
  refine ⟨_, _, pre0 _ ?_, hrun, hended, _, _, rfl, ?_, ⟨_, rfl⟩, hW, hsame.mono (by decide) (by decide)⟩
  · show SP pg ev below (s₁.setTop (mkF mi 0 #[.val (.ref t), .val (.ref u)] [])) _
    refine XS.aloadN X0.here hx rfl (hb hby dj30_0) rfl rfl ?_
    refine X0.arraylength hx (cell := cl101) (by rw [eE]; exact Ar101.1) (State.isArrayOf_alike hZ.alike Ar101.2.1) (g := (mkF mi 1 #[.val (.ref t), .val (.ref u)] [(.ref u)])) rfl (rest := []) rfl (hb hby dj30_1) _ ?_
    rw [len_of Sz101 Nn101]
    refine XS.ifYes X0.here hx rfl (pc0 := 2) (pc' := 7) rfl (hb hby dj30_2) rfl ((if0 _ _).trans (feq (by decide : ¬ ((1 : Int32) = (0 : Int32)))).2) (by decide) (by decide) ?_
    refine XS.aloadN X0.here hx rfl (hb hby dj30_7) rfl rfl ?_
    refine X0.arraylength hx (cell := cl102) (by rw [eE]; exact Ar102.1) (State.isArrayOf_alike hZ.alike Ar102.2.1) (g := (mkF mi 8 #[.val (.ref t), .val (.ref u)] [(.ref t)])) rfl (rest := []) rfl (hb hby dj30_8) _ ?_
    rw [len_of Sz102 Nn102]
    refine XS.ifYes X0.here hx rfl (pc0 := 9) (pc' := 14) rfl (hb hby dj30_9) rfl ((if0 _ _).trans (feq (own_ne0 hne hl)).2) (by decide) (by decide) ?_
    refine XS.aloadN X0.here hx rfl (hb hby dj30_14) rfl rfl ?_
    refine XS.aloadN X0.here hx rfl (hb hby dj30_15) rfl rfl ?_
    refine X0.arraylength hx (cell := cl103) (by rw [eE]; exact Ar103.1) (State.isArrayOf_alike hZ.alike Ar103.2.1) (g := (mkF mi 16 #[.val (.ref t), .val (.ref u)] [(.ref t), (.ref t)])) rfl (rest := [(.ref t)]) rfl (hb hby dj30_16) _ ?_
    rw [len_of Sz103 Nn103]
    refine XS.aloadN X0.here hx rfl (hb hby dj30_17) rfl rfl ?_
    refine XS.aloadN X0.here hx rfl (hb hby dj30_18) rfl rfl ?_
    refine X0.arraylength hx (cell := cl104) (by rw [eE]; exact Ar104.1) (State.isArrayOf_alike hZ.alike Ar104.2.1) (g := (mkF mi 19 #[.val (.ref t), .val (.ref u)] [(.ref u), (.ref u), (.int (Int32.ofNat cs.length)), (.ref t)])) rfl (rest := [(.ref u), (.int (Int32.ofNat cs.length)), (.ref t)]) rfl (hb hby dj30_19) _ ?_
    rw [len_of Sz104 Nn104]
    refine XS.iconst X0.here hx rfl (hb hby dj30_20) ?_
    refine st105 _ ?_
    show SP pg ev below (T105.setTop (mkF mi 24 #[.val (.ref t), .val (.ref u)] [(.int (-1))])) _
    exact retI X105 hx Bd.returns (hb hby dj30_24) hr
  · show Q_ixc_47 Z t u kt ku cs hE n0 _ T105.heap _
    rw [hh105']
    exact ⟨rfl, N0, rfl⟩
theorem dj31_0 : decode jc31 0 = .ok (.aload_n 0, 1) := by decide +kernel
theorem dj31_1 : decode jc31 1 = .ok (.invokevirtual 335, 3) := by decide +kernel
theorem dj31_4 : decode jc31 4 = .ok (.istore_n 2, 1) := by decide +kernel
theorem dj31_5 : decode jc31 5 = .ok (.iload_n 2, 1) := by decide +kernel
theorem dj31_6 : decode jc31 6 = .ok (.aload_n 1, 1) := by decide +kernel
theorem dj31_7 : decode jc31 7 = .ok (.invokevirtual 335, 3) := by decide +kernel
theorem dj31_10 : decode jc31 10 = .ok (.if_icmp .ne 36, 3) := by decide +kernel
theorem dj31_13 : decode jc31 13 = .ok (.aload_n 0, 1) := by decide +kernel
theorem dj31_14 : decode jc31 14 = .ok (.invokevirtual 492, 3) := by decide +kernel
theorem dj31_17 : decode jc31 17 = .ok (.ifCond .eq 17, 3) := by decide +kernel
theorem dj31_20 : decode jc31 20 = .ok (.aload_n 0, 1) := by decide +kernel
theorem dj31_21 : decode jc31 21 = .ok (.getfield 9, 3) := by decide +kernel
theorem dj31_24 : decode jc31 24 = .ok (.aload_n 1, 1) := by decide +kernel
theorem dj31_25 : decode jc31 25 = .ok (.getfield 9, 3) := by decide +kernel
theorem dj31_28 : decode jc31 28 = .ok (.invokestatic 647, 3) := by decide +kernel
theorem dj31_31 : decode jc31 31 = .ok (.goto 14, 3) := by decide +kernel
theorem dj31_45 : decode jc31 45 = .ok (.ireturn, 1) := by decide +kernel
theorem pd_23 : parseMethodDescriptor "([B[B)I" = some ⟨[(.array .byte), (.array .byte)], some .int⟩ := by decide +kernel
theorem ef_ixs_47 (mi : MethodId) (x : Addr) (y : Addr) : entryFrame mi #[(.ref x), (.ref y)] 3 = mkF mi 0 #[.val (.ref x), .val (.ref y), .unset] [] := rfl
def Q_ixs_47 (Z : State) (x y t u : Addr) (cs : List Int32) (zc : Int32) (hE : Heap) (n0 : Nat) (vv : Option Value) (hh : Heap) (LL : List Loc) : Prop := (vv = some (.int (-1))) ∧ (Fr n0 LL) ∧ (hh = hE)
theorem rm_ixs_47 (hw : HW a0 Z) (ws : List Cond) (x y t u : Addr) (cs : List Int32) (zc : Int32) (hE : Heap) (n0 : Nat) (O : Old Z n0 hE) (P0_ : LStr Z hE x t cs) (P1_ : LStr Z hE y u ([(47 : Int32)] : List Int32)) (D0_ : Sta Z Z.heap c1_ c5_ "Z" (.int zc)) (hne : cs.length ≠ 0) (hd : ∀ c ∈ cs, ¬ ((c.toInt8.toInt32) = (47 : Int32))) (hzc : ¬ (zc = (0 : Int32))) :
    MF la Z hE mn41 jc31 3 (some .int) ws (rr 3 0 0 95) #[(.ref x), (.ref y)] (Q_ixs_47 Z x y t u cs zc hE n0) := by
  refine MetFree.of_bodySF (plainFor_of_name pn_java_lang_String) hisR ?_
  intro pg ev sb mi gs below me cd s₁ Bd hml0 hPt hKt
  obtain ⟨rfl, hZ, hh⟩ := hPt
  have hx := Bd.exec
  have hby := Bd.bytes
  have hml : cd.maxLocals = 3 := hml0
  have hown : sb.vm.findClass c1_ = some mi.cls := findClass_of_methodNamed Bd.named
  have X0 : Stand pg la ev (rr 3 0 0 95) sb mi #[(.ref x), (.ref y)] below me cd s₁ [] 0 0 := Stand.of_body Bd
  have eE : s₁.heap = hE := by rw [← hh, Bd.state]; rfl
  have N0 := Fr.nil n0
  have pre0 : ∀ tt, SP pg ev below (s₁.setTop (mkF mi 0 #[.val (.ref x), .val (.ref y), .unset] [])) tt → SP pg ev below (s₁.setTop (entryFrame mi #[(.ref x), (.ref y)] 3)) tt := fun tt kk => castTop (ef_ixs_47 mi x y) kk
  obtain ⟨sE101, sV101, sC101, ⟨kb101, sK101⟩, sb101, sl101⟩ := id P0_
  obtain ⟨sE102, sV102, sC102, ⟨kb102, sK102⟩, sb102, sl102⟩ := id P1_
  have sK102' : Arv Z hE u kb102 .byte (1 : Int32) [(.int 47)] (.int 0) := sK102
  obtain ⟨cq103, kq103, q103a, q103b, q103c⟩ := isOf hZ eE sE101
  obtain ⟨v103, _, ⟨T103, L103, k103, n103⟩, -, X103, ⟨Lc103, hQ103, l103, y103, z103⟩, st103⟩ := X0.virtualBack hx (y := mn0) (z := mn0) hown (mvT hZ (wd80 hw)) (mvT hZ (wd81 hw)) (notFace_of_selects (args := #[]) (mvT hZ (wd83 hw))) (mvT hZ (wd83 hw)) (mvT hZ (wd82 hw)) (by decide) (backOf (W := 0) (rm_coder la Z a0 hw [] x zc hE n0 O sC101 D0_ (hzc : ¬ (zc = (0 : Int32)))) hZ (wd84 hw) (wd6 hw) (by decide) (by decide)) q103a q103c (g := (mkF mi 1 #[.val (.ref x), .val (.ref y), .unset] [(.ref x)])) rfl (by rw [hml]; rfl) (Steps.refl _) (argsL := []) (rest := []) (lenOf pd_0 rfl) rfl (Nat.le_of_ble_eq_true rfl) (hb hby dj31_1) (fun _ _ => ⟨rfl, eE, (by decide : 0 + 0 ≤ _), (by decide : 0 + 0 ≤ _)⟩)
  dsimp only [Pt.U, Pt.locs, Pt.cells, Pt.slots] at X103 l103 y103 z103 st103 hQ103
  subst l103 y103 z103
  obtain ⟨rfl, Nq103, ek103⟩ := hQ103
  have N103 := Fr.app N0 Nq103
  obtain ⟨cq104, kq104, q104a, q104b, q104c⟩ := isOf hZ ek103 sE102
  obtain ⟨v104, _, ⟨T104, L104, k104, n104⟩, -, X104, ⟨Lc104, hQ104, l104, y104, z104⟩, st104⟩ := X103.virtualBack hx (y := mn0) (z := mn0) hown (mvT hZ (wd80 hw)) (mvT hZ (wd81 hw)) (notFace_of_selects (args := #[]) (mvT hZ (wd83 hw))) (mvT hZ (wd83 hw)) (mvT hZ (wd82 hw)) (by decide) (backOf (W := 1) (rm_coder la Z a0 hw [] y zc hE n0 O sC102 D0_ (hzc : ¬ (zc = (0 : Int32)))) hZ (wd84 hw) (wd6 hw) (by decide) (by decide)) q104a q104c (g := (mkF mi 7 #[.val (.ref x), .val (.ref y), .val (.int 0)] [(.ref y), (.int 0)])) rfl (by rw [hml]; rfl) (Steps.refl _) (argsL := []) (rest := [(.int 0)]) (lenOf pd_0 rfl) rfl (Nat.le_of_ble_eq_true rfl) (hb hby dj31_7) (fun _ _ => ⟨rfl, ek103, (by decide : 0 + 0 ≤ _), (by decide : 0 + 0 ≤ _)⟩)
  dsimp only [Pt.U, Pt.locs, Pt.cells, Pt.slots] at X104 l104 y104 z104 st104 hQ104
  subst l104 y104 z104
  obtain ⟨rfl, Nq104, ek104⟩ := hQ104
  have N104 := Fr.app N103 Nq104
  obtain ⟨cq105, kq105, q105a, q105b, q105c⟩ := isOf hZ ek104 sE101
  obtain ⟨v105, _, ⟨T105, L105, k105, n105⟩, -, X105, ⟨Lc105, hQ105, l105, y105, z105⟩, st105⟩ := X104.virtualBack hx (y := mn2) (z := mn2) hown (mvT hZ (wd85 hw)) (mvT hZ (wd86 hw)) (notFace_of_selects (args := #[]) (mvT hZ (wd88 hw))) (mvT hZ (wd88 hw)) (mvT hZ (wd87 hw)) (by decide) (backOf (W := 0) (rm_isl1 la Z a0 hw [] x zc hE n0 O sC101 D0_ (hzc : ¬ (zc = (0 : Int32)))) hZ (wd89 hw) (wd6 hw) (by decide) (by decide)) q105a q105c (g := (mkF mi 14 #[.val (.ref x), .val (.ref y), .val (.int 0)] [(.ref x)])) rfl (by rw [hml]; rfl) (Steps.refl _) (argsL := []) (rest := []) (lenOf pd_3 rfl) rfl (Nat.le_of_ble_eq_true rfl) (hb hby dj31_14) (fun _ _ => ⟨rfl, ek104, (by decide : 0 + 0 ≤ _), (by decide : 0 + 0 ≤ _)⟩)
  dsimp only [Pt.U, Pt.locs, Pt.cells, Pt.slots] at X105 l105 y105 z105 st105 hQ105
  subst l105 y105 z105
  obtain ⟨rfl, Nq105, ek105⟩ := hQ105
  have N105 := Fr.app N104 Nq105
  obtain ⟨T106, X106, e106, st106⟩ := getF X105 hx hZ hown (host := "") (Or.inl (wd26 hw)) Via.refl ek105 sV101 (g := (mkF mi 21 #[.val (.ref x), .val (.ref y), .val (.int 0)] [(.ref x)])) rfl rfl (hb hby dj31_21)
  obtain ⟨T107, X107, e107, st107⟩ := getF X106 hx hZ hown (host := "") (Or.inl (wd26 hw)) Via.refl e106 sV102 (g := (mkF mi 25 #[.val (.ref x), .val (.ref y), .val (.int 0)] [(.ref y), (.ref t)])) rfl rfl (hb hby dj31_25)
  obtain ⟨v108, _, ⟨T108, L108, k108, n108⟩, -, X108, ⟨Lc108, hQ108, l108, y108, z108⟩, st108⟩ := Jvm.LawKit.callS X107 hx (y := mn40) hown (mvT hZ (wd90 hw)) (mvT hZ (wd91 hw)) (mvT hZ (wd11 hw)) (mvT hZ (wd92 hw)) (by decide) (backOf (W := 0) (rm_ixc_47 la Z a0 hw [] t u kb101 kb102 cs hE n0 O sK101 sK102' (sl101 : cs.length ≤ 4000) (hne : cs.length ≠ 0) (hd : ∀ c ∈ cs, ¬ ((c.toInt8.toInt32) = (47 : Int32)))) hZ (wd92 hw) (wd11 hw) (by decide) (by decide)) (g := (mkF mi 28 #[.val (.ref x), .val (.ref y), .val (.int 0)] [(.ref u), (.ref t)])) rfl (by rw [hml]; rfl) (argsL := [(.ref t), (.ref u)]) (rest := []) (lenOf pd_23 rfl) rfl (Nat.le_of_ble_eq_true rfl) (hb hby dj31_28) (fun _ _ => ⟨rfl, e107, (by decide : 0 + 0 ≤ _), (by decide : 0 + 0 ≤ _)⟩)
  dsimp only [Pt.U, Pt.locs, Pt.cells, Pt.slots] at X108 l108 y108 z108 st108 hQ108
  subst l108 y108 z108
  obtain ⟨rfl, Nq108, ek108⟩ := hQ108
  have N108 := Fr.app N105 Nq108
  obtain ⟨fs, hr, hrun, hended, hW, hsame⟩ := X108.leave (v := some (.int (-1))) (fun hq => by rw [Bd.returns] at hq; cases hq)
  refine ⟨_, _, pre0 _ ?_, hrun, hended, _, _, rfl, ?_, ⟨_, rfl⟩, hW, hsame.mono (by decide) (by decide)⟩
  · show SP pg ev below (s₁.setTop (mkF mi 0 #[.val (.ref x), .val (.ref y), .unset] [])) _
    refine XS.aloadN X0.here hx rfl (hb hby dj31_0) rfl rfl ?_
    refine st103.trans ?_
    refine XS.istoreN X103.here hx rfl (hb hby dj31_4) rfl (l' := #[.val (.ref x), .val (.ref y), .val (.int 0)]) rfl ?_
    refine XS.iloadN X103.here hx rfl (hb hby dj31_5) rfl ?_
    refine XS.aloadN X103.here hx rfl (hb hby dj31_6) rfl rfl ?_
    refine st104.trans ?_
    refine XS.icmpNo X104.here hx rfl (hb hby dj31_10) rfl (teq (rfl : (0 : Int32) = (0 : Int32))).2 ?_
    refine XS.aloadN X104.here hx rfl (hb hby dj31_13) rfl rfl ?_
    refine st105.trans ?_
    refine XS.ifNo X105.here hx rfl (hb hby dj31_17) rfl ((if0 _ _).trans (feq (by decide : ¬ ((1 : Int32) = (0 : Int32)))).1) ?_
    refine XS.aloadN X105.here hx rfl (hb hby dj31_20) rfl rfl ?_
    refine st106 _ ?_
    refine XS.aloadN X106.here hx rfl (hb hby dj31_24) rfl rfl ?_
    refine st107 _ ?_
    refine st108 _ ?_
    refine XS.goto X108.here hx rfl (pc0 := 31) (pc' := 45) rfl (hb hby dj31_31) (by decide) (by decide) ?_
    show SP pg ev below (T108.setTop (mkF mi 45 #[.val (.ref x), .val (.ref y), .val (.int 0)] [(.int (-1))])) _
    exact retI X108 hx Bd.returns (hb hby dj31_45) hr
  · show Q_ixs_47 Z x y t u cs zc hE n0 _ T108.heap _
    rw [ek108]
    exact ⟨rfl, N108, rfl⟩
theorem dj32_0 : decode jc32 0 = .ok (.aload_n 0, 1) := by decide +kernel
theorem dj32_1 : decode jc32 1 = .ok (.aload_n 1, 1) := by decide +kernel
theorem dj32_2 : decode jc32 2 = .ok (.invokeinterface 710 1, 5) := by decide +kernel
theorem dj32_7 : decode jc32 7 = .ok (.invokevirtual 711, 3) := by decide +kernel
theorem dj32_10 : decode jc32 10 = .ok (.ifCond .lt 7, 3) := by decide +kernel
theorem dj32_17 : decode jc32 17 = .ok (.iconst 0, 1) := by decide +kernel
theorem dj32_18 : decode jc32 18 = .ok (.ireturn, 1) := by decide +kernel
theorem pd_24 : parseMethodDescriptor "()Ljava/lang/String;" = some ⟨[], some (.object "java/lang/String")⟩ := by decide +kernel
theorem pd_25 : parseMethodDescriptor "(Ljava/lang/String;)I" = some ⟨[(.object "java/lang/String")], some .int⟩ := by decide +kernel
theorem ef_con_47 (mi : MethodId) (x : Addr) (y : Addr) : entryFrame mi #[(.ref x), (.ref y)] 2 = mkF mi 0 #[.val (.ref x), .val (.ref y)] [] := rfl
def Q_con_47 (Z : State) (x y t u : Addr) (cs : List Int32) (zc : Int32) (hE : Heap) (n0 : Nat) (vv : Option Value) (hh : Heap) (LL : List Loc) : Prop := (vv = some (.int 0)) ∧ (Fr n0 LL) ∧ (hh = hE)
theorem rm_con_47 (hw : HW a0 Z) (ws : List Cond) (x y t u : Addr) (cs : List Int32) (zc : Int32) (hE : Heap) (n0 : Nat) (O : Old Z n0 hE) (P0_ : LStr Z hE x t cs) (P1_ : LStr Z hE y u ([(47 : Int32)] : List Int32)) (D0_ : Sta Z Z.heap c1_ c5_ "Z" (.int zc)) (hne : cs.length ≠ 0) (hd : ∀ c ∈ cs, ¬ ((c.toInt8.toInt32) = (47 : Int32))) (hzc : ¬ (zc = (0 : Int32))) :
    MF la Z hE mn43 jc32 2 (some .boolean) ws (rr 4 0 0 109) #[(.ref x), (.ref y)] (Q_con_47 Z x y t u cs zc hE n0) := by
  refine MetFree.of_bodySF (plainFor_of_name pn_java_lang_String) hisR ?_
  intro pg ev sb mi gs below me cd s₁ Bd hml0 hPt hKt
  obtain ⟨rfl, hZ, hh⟩ := hPt
  have hx := Bd.exec
  have hby := Bd.bytes
  have hml : cd.maxLocals = 2 := hml0
  have hown : sb.vm.findClass c1_ = some mi.cls := findClass_of_methodNamed Bd.named
  have X0 : Stand pg la ev (rr 4 0 0 109) sb mi #[(.ref x), (.ref y)] below me cd s₁ [] 0 0 := Stand.of_body Bd
  have eE : s₁.heap = hE := by rw [← hh, Bd.state]; rfl
  have N0 := Fr.nil n0
  have pre0 : ∀ tt, SP pg ev below (s₁.setTop (mkF mi 0 #[.val (.ref x), .val (.ref y)] [])) tt → SP pg ev below (s₁.setTop (entryFrame mi #[(.ref x), (.ref y)] 2)) tt := fun tt kk => castTop (ef_con_47 mi x y) kk
  obtain ⟨sE101, sV101, sC101, ⟨kb101, sK101⟩, sb101, sl101⟩ := id P0_
  obtain ⟨sE102, sV102, sC102, ⟨kb102, sK102⟩, sb102, sl102⟩ := id P1_
  have sK102' : Arv Z hE u kb102 .byte (1 : Int32) [(.int 47)] (.int 0) := sK102
  obtain ⟨cq103, kq103, q103a, q103b, q103c⟩ := isOf hZ eE sE102
  obtain ⟨v103, _, ⟨T103, L103, k103, n103⟩, -, X103, ⟨Lc103, hQ103, l103, y103, z103⟩, st103⟩ := X0.interfaceBack hx (xi := mn42) (y := mn37) hown (mvT hZ (wd66 hw)) (mvT hZ (wd67 hw)) (mvT hZ (wd68 hw)) (mvT hZ (wd69 hw)) (mvT hZ (wd70 hw)) (mvT hZ (wd71 hw)) (mvT hZ (wd72 hw)) (mvT hZ (wd73 hw)) (by decide) (backOf (W := 1) (rm_sts la Z a0 hw [] y hE n0 O) hZ (wd74 hw) (wd6 hw) (by decide) (by decide)) q103a q103b q103c (g := (mkF mi 2 #[.val (.ref x), .val (.ref y)] [(.ref y), (.ref x)])) rfl (by rw [hml]; rfl) (Steps.refl _) (argsL := []) (rest := [(.ref x)]) (lenOf pd_24 rfl) rfl (Nat.le_of_ble_eq_true rfl) (hb hby dj32_2) (fun _ _ => ⟨rfl, eE, (by decide : 0 + 0 ≤ _), (by decide : 0 + 0 ≤ _)⟩)
  dsimp only [Pt.U, Pt.locs, Pt.cells, Pt.slots] at X103 l103 y103 z103 st103 hQ103
  subst l103 y103 z103
  obtain ⟨rfl, Nq103, ek103⟩ := hQ103
  have N103 := Fr.app N0 Nq103
  obtain ⟨cq104, kq104, q104a, q104b, q104c⟩ := isOf hZ ek103 sE101
  obtain ⟨v104, _, ⟨T104, L104, k104, n104⟩, -, X104, ⟨Lc104, hQ104, l104, y104, z104⟩, st104⟩ := X103.virtualBack hx (y := mn41) (z := mn41) hown (mvT hZ (wd75 hw)) (mvT hZ (wd76 hw)) (notFace_of_selects (args := #[]) (mvT hZ (wd78 hw))) (mvT hZ (wd78 hw)) (mvT hZ (wd77 hw)) (by decide) (backOf (W := 0) (rm_ixs_47 la Z a0 hw [] x y t u cs zc hE n0 O P0_ P1_ D0_ (hne : cs.length ≠ 0) (hd : ∀ c ∈ cs, ¬ ((c.toInt8.toInt32) = (47 : Int32))) (hzc : ¬ (zc = (0 : Int32)))) hZ (wd79 hw) (wd6 hw) (by decide) (by decide)) q104a q104c (g := (mkF mi 7 #[.val (.ref x), .val (.ref y)] [(.ref y), (.ref x)])) rfl (by rw [hml]; rfl) (Steps.refl _) (argsL := [(.ref y)]) (rest := []) (lenOf pd_25 rfl) rfl (Nat.le_of_ble_eq_true rfl) (hb hby dj32_7) (fun _ _ => ⟨rfl, ek103, (by decide : 0 + 0 ≤ _), (by decide : 0 + 0 ≤ _)⟩)
  dsimp only [Pt.U, Pt.locs, Pt.cells, Pt.slots] at X104 l104 y104 z104 st104 hQ104
  subst l104 y104 z104
  obtain ⟨rfl, Nq104, ek104⟩ := hQ104
  have N104 := Fr.app N103 Nq104
  obtain ⟨fs, hr, hrun, hended, hW, hsame⟩ := X104.leave (v := some (.int 0)) (fun hq => by rw [Bd.returns] at hq; cases hq)
  refine ⟨_, _, pre0 _ ?_, hrun, hended, _, _, rfl, ?_, ⟨_, rfl⟩, hW, hsame.mono (by decide) (by decide)⟩
  · show SP pg ev below (s₁.setTop (mkF mi 0 #[.val (.ref x), .val (.ref y)] [])) _
    refine XS.aloadN X0.here hx rfl (hb hby dj32_0) rfl rfl ?_
    refine XS.aloadN X0.here hx rfl (hb hby dj32_1) rfl rfl ?_
    refine st103.trans ?_
    refine st104.trans ?_
    refine XS.ifYes X104.here hx rfl (pc0 := 10) (pc' := 17) rfl (hb hby dj32_10) rfl ((if0 _ _).trans (tlt (by decide : (-1 : Int32) < (0 : Int32))).1) (by decide) (by decide) ?_
    refine XS.iconst X104.here hx rfl (hb hby dj32_17) ?_
    show SP pg ev below (T104.setTop (mkF mi 18 #[.val (.ref x), .val (.ref y)] [(.int 0)])) _
    exact retN X104 hx (t := .boolean) Bd.returns (by simp) (hb hby dj32_18) hr
  · show Q_con_47 Z x y t u cs zc hE n0 _ T104.heap _
    rw [ek104]
    exact ⟨rfl, N104, rfl⟩
theorem ef_ixc_33 (mi : MethodId) (t : Addr) (u : Addr) : entryFrame mi #[(.ref t), (.ref u)] 2 = mkF mi 0 #[.val (.ref t), .val (.ref u)] [] := rfl
def Q_ixc_33 (Z : State) (t u : Addr) (kt ku : ClassId) (cs : List Int32) (hE : Heap) (n0 : Nat) (vv : Option Value) (hh : Heap) (LL : List Loc) : Prop := (vv = some (.int (-1))) ∧ (Fr n0 LL) ∧ (hh = hE)
theorem rm_ixc_33 (hw : HW a0 Z) (ws : List Cond) (t u : Addr) (kt ku : ClassId) (cs : List Int32) (hE : Heap) (n0 : Nat) (O : Old Z n0 hE) (P0_ : Arv Z hE t kt .byte (Int32.ofNat cs.length) (cs.map fun c => Value.int c.toInt8.toInt32) (.int 0)) (P1_ : Arv Z hE u ku .byte (1 : Int32) [(.int 33)] (.int 0)) (hl : cs.length ≤ 4000) (hne : cs.length ≠ 0) (hd : ∀ c ∈ cs, ¬ ((c.toInt8.toInt32) = (33 : Int32))) :
    MF la Z hE mn40 jc30 2 (some .int) ws (rr 2 0 0 82) #[(.ref t), (.ref u)] (Q_ixc_33 Z t u kt ku cs hE n0) := by
  refine MetFree.of_bodySF (plainFor_of_name pn_java_lang_StringLatin1) hisR ?_
  intro pg ev sb mi gs below me cd s₁ Bd hml0 hPt hKt
  obtain ⟨rfl, hZ, hh⟩ := hPt
  have hx := Bd.exec
  have hby := Bd.bytes
  have hml : cd.maxLocals = 2 := hml0
  have hown : sb.vm.findClass c7_ = some mi.cls := findClass_of_methodNamed Bd.named
  have X0 : Stand pg la ev (rr 2 0 0 82) sb mi #[(.ref t), (.ref u)] below me cd s₁ [] 0 0 := Stand.of_body Bd
  have eE : s₁.heap = hE := by rw [← hh, Bd.state]; rfl
  have N0 := Fr.nil n0
  have pre0 : ∀ tt, SP pg ev below (s₁.setTop (mkF mi 0 #[.val (.ref t), .val (.ref u)] [])) tt → SP pg ev below (s₁.setTop (entryFrame mi #[(.ref t), (.ref u)] 2)) tt := fun tt kk => castTop (ef_ixc_33 mi t u) kk
  obtain ⟨cl101, Ar101, -, Sz101, Nn101, -, -⟩ := id P1_
  obtain ⟨cl102, Ar102, -, Sz102, Nn102, -, -⟩ := id P0_
  obtain ⟨cl103, Ar103, -, Sz103, Nn103, -, -⟩ := id P0_
  obtain ⟨cl104, Ar104, -, Sz104, Nn104, -, -⟩ := id P1_
  obtain ⟨v105, vw105, ⟨T105, L105, k105, n105⟩, hvw105, X105, ⟨⟨hh105, l105, y105, z105⟩, hv105⟩, st105⟩ := Jvm.LawKit.callS X0 hx (y := mn39) hown (mvT hZ (wd93 hw)) (mvT hZ (wd94 hw)) (mvT hZ (wd11 hw)) (mvT hZ (wd95 hw)) (by decide) (Jvm.Free.Str.IXS.pays (W := 0) (by decide) (by decide) (own_ixtab hw hZ) (mvT hZ (wd11 hw))) (g := (mkF mi 21 #[.val (.ref t), .val (.ref u)] [(.int 0), (.int 1), (.ref u), (.int (Int32.ofNat cs.length)), (.ref t)])) rfl (by rw [hml]; rfl) (argsL := [(.ref t), (.int (Int32.ofNat cs.length)), (.ref u), (.int 1), (.int 0)]) (rest := []) (lenOf pd_22 rfl) rfl (Nat.le_of_ble_eq_true rfl) (hb hby dj30_21) (fun vm₁ hvm => ⟨(by show (0 : Nat) ≤ _; decide), (by show (0 : Nat) ≤ _; decide), (Exists.imp (fun _ h => h.1) (own_ixq (U := s₁.setVm vm₁) (hZ.alike.trans hvm.alike) eE P0_ P1_ hl hd))⟩)
  dsimp only [Pt.U, Pt.locs, Pt.cells, Pt.slots] at X105 l105 y105 z105 st105 hh105 hv105
  obtain ⟨qx105, hq105, ha105⟩ := own_ixq (U := s₁.setVm vw105) (hZ.alike.trans hvw105.alike) eE P0_ P1_ hl hd
  have hvv105 := hv105 qx105 hq105
  rw [ha105] at hvv105
  subst hvv105 l105 y105 z105
  have hh105' : T105.heap = hE := hh105.trans eE
  obtain ⟨fs, hr, hrun, hended, hW, hsame⟩ := X105.leave (v := some (.int (-1))) (fun hq => by rw [Bd.returns] at hq; cases hq)
  refine ⟨_, _, pre0 _ ?_, hrun, hended, _, _, rfl, ?_, ⟨_, rfl⟩, hW, hsame.mono (by decide) (by decide)⟩
  · show SP pg ev below (s₁.setTop (mkF mi 0 #[.val (.ref t), .val (.ref u)] [])) _
    refine XS.aloadN X0.here hx rfl (hb hby dj30_0) rfl rfl ?_
    refine X0.arraylength hx (cell := cl101) (by rw [eE]; exact Ar101.1) (State.isArrayOf_alike hZ.alike Ar101.2.1) (g := (mkF mi 1 #[.val (.ref t), .val (.ref u)] [(.ref u)])) rfl (rest := []) rfl (hb hby dj30_1) _ ?_
    rw [len_of Sz101 Nn101]
    refine XS.ifYes X0.here hx rfl (pc0 := 2) (pc' := 7) rfl (hb hby dj30_2) rfl ((if0 _ _).trans (feq (by decide : ¬ ((1 : Int32) = (0 : Int32)))).2) (by decide) (by decide) ?_
    refine XS.aloadN X0.here hx rfl (hb hby dj30_7) rfl rfl ?_
    refine X0.arraylength hx (cell := cl102) (by rw [eE]; exact Ar102.1) (State.isArrayOf_alike hZ.alike Ar102.2.1) (g := (mkF mi 8 #[.val (.ref t), .val (.ref u)] [(.ref t)])) rfl (rest := []) rfl (hb hby dj30_8) _ ?_
    rw [len_of Sz102 Nn102]
    refine XS.ifYes X0.here hx rfl (pc0 := 9) (pc' := 14) rfl (hb hby dj30_9) rfl ((if0 _ _).trans (feq (own_ne0 hne hl)).2) (by decide) (by decide) ?_
    refine XS.aloadN X0.here hx rfl (hb hby dj30_14) rfl rfl ?_
    refine XS.aloadN X0.here hx rfl (hb hby dj30_15) rfl rfl ?_
    refine X0.arraylength hx (cell := cl103) (by rw [eE]; exact Ar103.1) (State.isArrayOf_alike hZ.alike Ar103.2.1) (g := (mkF mi 16 #[.val (.ref t), .val (.ref u)] [(.ref t), (.ref t)])) rfl (rest := [(.ref t)]) rfl (hb hby dj30_16) _ ?_
    rw [len_of Sz103 Nn103]
    refine XS.aloadN X0.here hx rfl (hb hby dj30_17) rfl rfl ?_
    refine XS.aloadN X0.here hx rfl (hb hby dj30_18) rfl rfl ?_
    refine X0.arraylength hx (cell := cl104) (by rw [eE]; exact Ar104.1) (State.isArrayOf_alike hZ.alike Ar104.2.1) (g := (mkF mi 19 #[.val (.ref t), .val (.ref u)] [(.ref u), (.ref u), (.int (Int32.ofNat cs.length)), (.ref t)])) rfl (rest := [(.ref u), (.int (Int32.ofNat cs.length)), (.ref t)]) rfl (hb hby dj30_19) _ ?_
    rw [len_of Sz104 Nn104]
    refine XS.iconst X0.here hx rfl (hb hby dj30_20) ?_
    refine st105 _ ?_
    show SP pg ev below (T105.setTop (mkF mi 24 #[.val (.ref t), .val (.ref u)] [(.int (-1))])) _
    exact retI X105 hx Bd.returns (hb hby dj30_24) hr
  · show Q_ixc_33 Z t u kt ku cs hE n0 _ T105.heap _
    rw [hh105']
    exact ⟨rfl, N0, rfl⟩
theorem ef_ixs_33 (mi : MethodId) (x : Addr) (y : Addr) : entryFrame mi #[(.ref x), (.ref y)] 3 = mkF mi 0 #[.val (.ref x), .val (.ref y), .unset] [] := rfl
def Q_ixs_33 (Z : State) (x y t u : Addr) (cs : List Int32) (zc : Int32) (hE : Heap) (n0 : Nat) (vv : Option Value) (hh : Heap) (LL : List Loc) : Prop := (vv = some (.int (-1))) ∧ (Fr n0 LL) ∧ (hh = hE)
theorem rm_ixs_33 (hw : HW a0 Z) (ws : List Cond) (x y t u : Addr) (cs : List Int32) (zc : Int32) (hE : Heap) (n0 : Nat) (O : Old Z n0 hE) (P0_ : LStr Z hE x t cs) (P1_ : LStr Z hE y u ([(33 : Int32)] : List Int32)) (D0_ : Sta Z Z.heap c1_ c5_ "Z" (.int zc)) (hne : cs.length ≠ 0) (hd : ∀ c ∈ cs, ¬ ((c.toInt8.toInt32) = (33 : Int32))) (hzc : ¬ (zc = (0 : Int32))) :
    MF la Z hE mn41 jc31 3 (some .int) ws (rr 3 0 0 95) #[(.ref x), (.ref y)] (Q_ixs_33 Z x y t u cs zc hE n0) := by
  refine MetFree.of_bodySF (plainFor_of_name pn_java_lang_String) hisR ?_
  intro pg ev sb mi gs below me cd s₁ Bd hml0 hPt hKt
  obtain ⟨rfl, hZ, hh⟩ := hPt
  have hx := Bd.exec
  have hby := Bd.bytes
  have hml : cd.maxLocals = 3 := hml0
  have hown : sb.vm.findClass c1_ = some mi.cls := findClass_of_methodNamed Bd.named
  have X0 : Stand pg la ev (rr 3 0 0 95) sb mi #[(.ref x), (.ref y)] below me cd s₁ [] 0 0 := Stand.of_body Bd
  have eE : s₁.heap = hE := by rw [← hh, Bd.state]; rfl
  have N0 := Fr.nil n0
  have pre0 : ∀ tt, SP pg ev below (s₁.setTop (mkF mi 0 #[.val (.ref x), .val (.ref y), .unset] [])) tt → SP pg ev below (s₁.setTop (entryFrame mi #[(.ref x), (.ref y)] 3)) tt := fun tt kk => castTop (ef_ixs_33 mi x y) kk
  obtain ⟨sE101, sV101, sC101, ⟨kb101, sK101⟩, sb101, sl101⟩ := id P0_
  obtain ⟨sE102, sV102, sC102, ⟨kb102, sK102⟩, sb102, sl102⟩ := id P1_
  have sK102' : Arv Z hE u kb102 .byte (1 : Int32) [(.int 33)] (.int 0) := sK102
  obtain ⟨cq103, kq103, q103a, q103b, q103c⟩ := isOf hZ eE sE101
  obtain ⟨v103, _, ⟨T103, L103, k103, n103⟩, -, X103, ⟨Lc103, hQ103, l103, y103, z103⟩, st103⟩ := X0.virtualBack hx (y := mn0) (z := mn0) hown (mvT hZ (wd80 hw)) (mvT hZ (wd81 hw)) (notFace_of_selects (args := #[]) (mvT hZ (wd83 hw))) (mvT hZ (wd83 hw)) (mvT hZ (wd82 hw)) (by decide) (backOf (W := 0) (rm_coder la Z a0 hw [] x zc hE n0 O sC101 D0_ (hzc : ¬ (zc = (0 : Int32)))) hZ (wd84 hw) (wd6 hw) (by decide) (by decide)) q103a q103c (g := (mkF mi 1 #[.val (.ref x), .val (.ref y), .unset] [(.ref x)])) rfl (by rw [hml]; rfl) (Steps.refl _) (argsL := []) (rest := []) (lenOf pd_0 rfl) rfl (Nat.le_of_ble_eq_true rfl) (hb hby dj31_1) (fun _ _ => ⟨rfl, eE, (by decide : 0 + 0 ≤ _), (by decide : 0 + 0 ≤ _)⟩)
  dsimp only [Pt.U, Pt.locs, Pt.cells, Pt.slots] at X103 l103 y103 z103 st103 hQ103
  subst l103 y103 z103
  obtain ⟨rfl, Nq103, ek103⟩ := hQ103
  have N103 := Fr.app N0 Nq103
  obtain ⟨cq104, kq104, q104a, q104b, q104c⟩ := isOf hZ ek103 sE102
  obtain ⟨v104, _, ⟨T104, L104, k104, n104⟩, -, X104, ⟨Lc104, hQ104, l104, y104, z104⟩, st104⟩ := X103.virtualBack hx (y := mn0) (z := mn0) hown (mvT hZ (wd80 hw)) (mvT hZ (wd81 hw)) (notFace_of_selects (args := #[]) (mvT hZ (wd83 hw))) (mvT hZ (wd83 hw)) (mvT hZ (wd82 hw)) (by decide) (backOf (W := 1) (rm_coder la Z a0 hw [] y zc hE n0 O sC102 D0_ (hzc : ¬ (zc = (0 : Int32)))) hZ (wd84 hw) (wd6 hw) (by decide) (by decide)) q104a q104c (g := (mkF mi 7 #[.val (.ref x), .val (.ref y), .val (.int 0)] [(.ref y), (.int 0)])) rfl (by rw [hml]; rfl) (Steps.refl _) (argsL := []) (rest := [(.int 0)]) (lenOf pd_0 rfl) rfl (Nat.le_of_ble_eq_true rfl) (hb hby dj31_7) (fun _ _ => ⟨rfl, ek103, (by decide : 0 + 0 ≤ _), (by decide : 0 + 0 ≤ _)⟩)
  dsimp only [Pt.U, Pt.locs, Pt.cells, Pt.slots] at X104 l104 y104 z104 st104 hQ104
  subst l104 y104 z104
  obtain ⟨rfl, Nq104, ek104⟩ := hQ104
  have N104 := Fr.app N103 Nq104
  obtain ⟨cq105, kq105, q105a, q105b, q105c⟩ := isOf hZ ek104 sE101
  obtain ⟨v105, _, ⟨T105, L105, k105, n105⟩, -, X105, ⟨Lc105, hQ105, l105, y105, z105⟩, st105⟩ := X104.virtualBack hx (y := mn2) (z := mn2) hown (mvT hZ (wd85 hw)) (mvT hZ (wd86 hw)) (notFace_of_selects (args := #[]) (mvT hZ (wd88 hw))) (mvT hZ (wd88 hw)) (mvT hZ (wd87 hw)) (by decide) (backOf (W := 0) (rm_isl1 la Z a0 hw [] x zc hE n0 O sC101 D0_ (hzc : ¬ (zc = (0 : Int32)))) hZ (wd89 hw) (wd6 hw) (by decide) (by decide)) q105a q105c (g := (mkF mi 14 #[.val (.ref x), .val (.ref y), .val (.int 0)] [(.ref x)])) rfl (by rw [hml]; rfl) (Steps.refl _) (argsL := []) (rest := []) (lenOf pd_3 rfl) rfl (Nat.le_of_ble_eq_true rfl) (hb hby dj31_14) (fun _ _ => ⟨rfl, ek104, (by decide : 0 + 0 ≤ _), (by decide : 0 + 0 ≤ _)⟩)
  dsimp only [Pt.U, Pt.locs, Pt.cells, Pt.slots] at X105 l105 y105 z105 st105 hQ105
  subst l105 y105 z105
  obtain ⟨rfl, Nq105, ek105⟩ := hQ105
  have N105 := Fr.app N104 Nq105
  obtain ⟨T106, X106, e106, st106⟩ := getF X105 hx hZ hown (host := "") (Or.inl (wd26 hw)) Via.refl ek105 sV101 (g := (mkF mi 21 #[.val (.ref x), .val (.ref y), .val (.int 0)] [(.ref x)])) rfl rfl (hb hby dj31_21)
  obtain ⟨T107, X107, e107, st107⟩ := getF X106 hx hZ hown (host := "") (Or.inl (wd26 hw)) Via.refl e106 sV102 (g := (mkF mi 25 #[.val (.ref x), .val (.ref y), .val (.int 0)] [(.ref y), (.ref t)])) rfl rfl (hb hby dj31_25)
  obtain ⟨v108, _, ⟨T108, L108, k108, n108⟩, -, X108, ⟨Lc108, hQ108, l108, y108, z108⟩, st108⟩ := Jvm.LawKit.callS X107 hx (y := mn40) hown (mvT hZ (wd90 hw)) (mvT hZ (wd91 hw)) (mvT hZ (wd11 hw)) (mvT hZ (wd92 hw)) (by decide) (backOf (W := 0) (rm_ixc_33 la Z a0 hw [] t u kb101 kb102 cs hE n0 O sK101 sK102' (sl101 : cs.length ≤ 4000) (hne : cs.length ≠ 0) (hd : ∀ c ∈ cs, ¬ ((c.toInt8.toInt32) = (33 : Int32)))) hZ (wd92 hw) (wd11 hw) (by decide) (by decide)) (g := (mkF mi 28 #[.val (.ref x), .val (.ref y), .val (.int 0)] [(.ref u), (.ref t)])) rfl (by rw [hml]; rfl) (argsL := [(.ref t), (.ref u)]) (rest := []) (lenOf pd_23 rfl) rfl (Nat.le_of_ble_eq_true rfl) (hb hby dj31_28) (fun _ _ => ⟨rfl, e107, (by decide : 0 + 0 ≤ _), (by decide : 0 + 0 ≤ _)⟩)
  dsimp only [Pt.U, Pt.locs, Pt.cells, Pt.slots] at X108 l108 y108 z108 st108 hQ108
  subst l108 y108 z108
  obtain ⟨rfl, Nq108, ek108⟩ := hQ108
  have N108 := Fr.app N105 Nq108
  obtain ⟨fs, hr, hrun, hended, hW, hsame⟩ := X108.leave (v := some (.int (-1))) (fun hq => by rw [Bd.returns] at hq; cases hq)
  refine ⟨_, _, pre0 _ ?_, hrun, hended, _, _, rfl, ?_, ⟨_, rfl⟩, hW, hsame.mono (by decide) (by decide)⟩
  · show SP pg ev below (s₁.setTop (mkF mi 0 #[.val (.ref x), .val (.ref y), .unset] [])) _
    refine XS.aloadN X0.here hx rfl (hb hby dj31_0) rfl rfl ?_
    refine st103.trans ?_
    refine XS.istoreN X103.here hx rfl (hb hby dj31_4) rfl (l' := #[.val (.ref x), .val (.ref y), .val (.int 0)]) rfl ?_
    refine XS.iloadN X103.here hx rfl (hb hby dj31_5) rfl ?_
    refine XS.aloadN X103.here hx rfl (hb hby dj31_6) rfl rfl ?_
    refine st104.trans ?_
    refine XS.icmpNo X104.here hx rfl (hb hby dj31_10) rfl (teq (rfl : (0 : Int32) = (0 : Int32))).2 ?_
    refine XS.aloadN X104.here hx rfl (hb hby dj31_13) rfl rfl ?_
    refine st105.trans ?_
    refine XS.ifNo X105.here hx rfl (hb hby dj31_17) rfl ((if0 _ _).trans (feq (by decide : ¬ ((1 : Int32) = (0 : Int32)))).1) ?_
    refine XS.aloadN X105.here hx rfl (hb hby dj31_20) rfl rfl ?_
    refine st106 _ ?_
    refine XS.aloadN X106.here hx rfl (hb hby dj31_24) rfl rfl ?_
    refine st107 _ ?_
    refine st108 _ ?_
    refine XS.goto X108.here hx rfl (pc0 := 31) (pc' := 45) rfl (hb hby dj31_31) (by decide) (by decide) ?_
    show SP pg ev below (T108.setTop (mkF mi 45 #[.val (.ref x), .val (.ref y), .val (.int 0)] [(.int (-1))])) _
    exact retI X108 hx Bd.returns (hb hby dj31_45) hr
  · show Q_ixs_33 Z x y t u cs zc hE n0 _ T108.heap _
    rw [ek108]
    exact ⟨rfl, N108, rfl⟩
theorem ef_con_33 (mi : MethodId) (x : Addr) (y : Addr) : entryFrame mi #[(.ref x), (.ref y)] 2 = mkF mi 0 #[.val (.ref x), .val (.ref y)] [] := rfl
def Q_con_33 (Z : State) (x y t u : Addr) (cs : List Int32) (zc : Int32) (hE : Heap) (n0 : Nat) (vv : Option Value) (hh : Heap) (LL : List Loc) : Prop := (vv = some (.int 0)) ∧ (Fr n0 LL) ∧ (hh = hE)
theorem rm_con_33 (hw : HW a0 Z) (ws : List Cond) (x y t u : Addr) (cs : List Int32) (zc : Int32) (hE : Heap) (n0 : Nat) (O : Old Z n0 hE) (P0_ : LStr Z hE x t cs) (P1_ : LStr Z hE y u ([(33 : Int32)] : List Int32)) (D0_ : Sta Z Z.heap c1_ c5_ "Z" (.int zc)) (hne : cs.length ≠ 0) (hd : ∀ c ∈ cs, ¬ ((c.toInt8.toInt32) = (33 : Int32))) (hzc : ¬ (zc = (0 : Int32))) :
    MF la Z hE mn43 jc32 2 (some .boolean) ws (rr 4 0 0 109) #[(.ref x), (.ref y)] (Q_con_33 Z x y t u cs zc hE n0) := by
  refine MetFree.of_bodySF (plainFor_of_name pn_java_lang_String) hisR ?_
  intro pg ev sb mi gs below me cd s₁ Bd hml0 hPt hKt
  obtain ⟨rfl, hZ, hh⟩ := hPt
  have hx := Bd.exec
  have hby := Bd.bytes
  have hml : cd.maxLocals = 2 := hml0
  have hown : sb.vm.findClass c1_ = some mi.cls := findClass_of_methodNamed Bd.named
  have X0 : Stand pg la ev (rr 4 0 0 109) sb mi #[(.ref x), (.ref y)] below me cd s₁ [] 0 0 := Stand.of_body Bd
  have eE : s₁.heap = hE := by rw [← hh, Bd.state]; rfl
  have N0 := Fr.nil n0
  have pre0 : ∀ tt, SP pg ev below (s₁.setTop (mkF mi 0 #[.val (.ref x), .val (.ref y)] [])) tt → SP pg ev below (s₁.setTop (entryFrame mi #[(.ref x), (.ref y)] 2)) tt := fun tt kk => castTop (ef_con_33 mi x y) kk
  obtain ⟨sE101, sV101, sC101, ⟨kb101, sK101⟩, sb101, sl101⟩ := id P0_
  obtain ⟨sE102, sV102, sC102, ⟨kb102, sK102⟩, sb102, sl102⟩ := id P1_
  have sK102' : Arv Z hE u kb102 .byte (1 : Int32) [(.int 33)] (.int 0) := sK102
  obtain ⟨cq103, kq103, q103a, q103b, q103c⟩ := isOf hZ eE sE102
  obtain ⟨v103, _, ⟨T103, L103, k103, n103⟩, -, X103, ⟨Lc103, hQ103, l103, y103, z103⟩, st103⟩ := X0.interfaceBack hx (xi := mn42) (y := mn37) hown (mvT hZ (wd66 hw)) (mvT hZ (wd67 hw)) (mvT hZ (wd68 hw)) (mvT hZ (wd69 hw)) (mvT hZ (wd70 hw)) (mvT hZ (wd71 hw)) (mvT hZ (wd72 hw)) (mvT hZ (wd73 hw)) (by decide) (backOf (W := 1) (rm_sts la Z a0 hw [] y hE n0 O) hZ (wd74 hw) (wd6 hw) (by decide) (by decide)) q103a q103b q103c (g := (mkF mi 2 #[.val (.ref x), .val (.ref y)] [(.ref y), (.ref x)])) rfl (by rw [hml]; rfl) (Steps.refl _) (argsL := []) (rest := [(.ref x)]) (lenOf pd_24 rfl) rfl (Nat.le_of_ble_eq_true rfl) (hb hby dj32_2) (fun _ _ => ⟨rfl, eE, (by decide : 0 + 0 ≤ _), (by decide : 0 + 0 ≤ _)⟩)
  dsimp only [Pt.U, Pt.locs, Pt.cells, Pt.slots] at X103 l103 y103 z103 st103 hQ103
  subst l103 y103 z103
  obtain ⟨rfl, Nq103, ek103⟩ := hQ103
  have N103 := Fr.app N0 Nq103
  obtain ⟨cq104, kq104, q104a, q104b, q104c⟩ := isOf hZ ek103 sE101
  obtain ⟨v104, _, ⟨T104, L104, k104, n104⟩, -, X104, ⟨Lc104, hQ104, l104, y104, z104⟩, st104⟩ := X103.virtualBack hx (y := mn41) (z := mn41) hown (mvT hZ (wd75 hw)) (mvT hZ (wd76 hw)) (notFace_of_selects (args := #[]) (mvT hZ (wd78 hw))) (mvT hZ (wd78 hw)) (mvT hZ (wd77 hw)) (by decide) (backOf (W := 0) (rm_ixs_33 la Z a0 hw [] x y t u cs zc hE n0 O P0_ P1_ D0_ (hne : cs.length ≠ 0) (hd : ∀ c ∈ cs, ¬ ((c.toInt8.toInt32) = (33 : Int32))) (hzc : ¬ (zc = (0 : Int32)))) hZ (wd79 hw) (wd6 hw) (by decide) (by decide)) q104a q104c (g := (mkF mi 7 #[.val (.ref x), .val (.ref y)] [(.ref y), (.ref x)])) rfl (by rw [hml]; rfl) (Steps.refl _) (argsL := [(.ref y)]) (rest := []) (lenOf pd_25 rfl) rfl (Nat.le_of_ble_eq_true rfl) (hb hby dj32_7) (fun _ _ => ⟨rfl, ek103, (by decide : 0 + 0 ≤ _), (by decide : 0 + 0 ≤ _)⟩)
  dsimp only [Pt.U, Pt.locs, Pt.cells, Pt.slots] at X104 l104 y104 z104 st104 hQ104
  subst l104 y104 z104
  obtain ⟨rfl, Nq104, ek104⟩ := hQ104
  have N104 := Fr.app N103 Nq104
  obtain ⟨fs, hr, hrun, hended, hW, hsame⟩ := X104.leave (v := some (.int 0)) (fun hq => by rw [Bd.returns] at hq; cases hq)
  refine ⟨_, _, pre0 _ ?_, hrun, hended, _, _, rfl, ?_, ⟨_, rfl⟩, hW, hsame.mono (by decide) (by decide)⟩
  · show SP pg ev below (s₁.setTop (mkF mi 0 #[.val (.ref x), .val (.ref y)] [])) _
    refine XS.aloadN X0.here hx rfl (hb hby dj32_0) rfl rfl ?_
    refine XS.aloadN X0.here hx rfl (hb hby dj32_1) rfl rfl ?_
    refine st103.trans ?_
    refine st104.trans ?_
    refine XS.ifYes X104.here hx rfl (pc0 := 10) (pc' := 17) rfl (hb hby dj32_10) rfl ((if0 _ _).trans (tlt (by decide : (-1 : Int32) < (0 : Int32))).1) (by decide) (by decide) ?_
    refine XS.iconst X104.here hx rfl (hb hby dj32_17) ?_
    show SP pg ev below (T104.setTop (mkF mi 18 #[.val (.ref x), .val (.ref y)] [(.int 0)])) _
    exact retN X104 hx (t := .boolean) Bd.returns (by simp) (hb hby dj32_18) hr
  · show Q_con_33 Z x y t u cs zc hE n0 _ T104.heap _
    rw [ek104]
    exact ⟨rfl, N104, rfl⟩
theorem dj41_0 : decode jc41 0 = .ok (.aload_n 1, 1) := by decide +kernel
theorem dj41_1 : decode jc41 1 = .ok (.ifnull 61, 3) := by decide +kernel
theorem dj41_4 : decode jc41 4 = .ok (.aload_n 1, 1) := by decide +kernel
theorem dj41_5 : decode jc41 5 = .ok (.invokevirtual 122, 3) := by decide +kernel
theorem dj41_8 : decode jc41 8 = .ok (.ifCond .ne 21, 3) := by decide +kernel
theorem dj41_11 : decode jc41 11 = .ok (.aload_n 1, 1) := by decide +kernel
theorem dj41_12 : decode jc41 12 = .ok (.ldc 105, 2) := by decide +kernel
theorem dj41_14 : decode jc41 14 = .ok (.invokevirtual 126, 3) := by decide +kernel
theorem dj41_17 : decode jc41 17 = .ok (.ifCond .ne 12, 3) := by decide +kernel
theorem dj41_20 : decode jc41 20 = .ok (.aload_n 1, 1) := by decide +kernel
theorem dj41_21 : decode jc41 21 = .ok (.ldc 120, 2) := by decide +kernel
theorem dj41_23 : decode jc41 23 = .ok (.invokevirtual 126, 3) := by decide +kernel
theorem dj41_26 : decode jc41 26 = .ok (.ifCond .eq 36, 3) := by decide +kernel
theorem dj41_62 : decode jc41 62 = .ok (.return_, 1) := by decide +kernel
theorem pd_26 : parseMethodDescriptor "(Ljava/lang/CharSequence;)Z" = some ⟨[(.object "java/lang/CharSequence")], some .boolean⟩ := by decide +kernel
theorem pn_com_example_beanloft_beanloft_naming_GlobalName : plainName "com/example/beanloft/beanloft/naming/GlobalName" = true := by first | (simp [plainName, overriddenIn]; done) | decide +kernel
theorem ef_seg (mi : MethodId) (k : Addr) (x : Addr) (m : Addr) (b : Addr) : entryFrame mi #[(.ref k), (.ref x), (.ref m), (.ref b)] 4 = mkF mi 0 #[.val (.ref k), .val (.ref x), .val (.ref m), .val (.ref b)] [] := rfl
def Q_seg (Z : State) (k x m b t : Addr) (cs : List Int32) (zc : Int32) (hE : Heap) (n0 : Nat) (vv : Option Value) (hh : Heap) (LL : List Loc) : Prop := (vv = none) ∧ (Fr n0 LL) ∧ (Keep hE hh [])
theorem rm_seg (hw : HW a0 Z) (ws : List Cond) (k x m b t : Addr) (cs : List Int32) (zc : Int32) (hE : Heap) (n0 : Nat) (O : Old Z n0 hE) (P0_ : LStr Z hE x t cs) (D0_ : Sta Z Z.heap c1_ c5_ "Z" (.int zc)) (hne : cs.length ≠ 0) (h47 : ∀ c ∈ cs, ¬ ((c.toInt8.toInt32) = (47 : Int32))) (h33 : ∀ c ∈ cs, ¬ ((c.toInt8.toInt32) = (33 : Int32))) (hzc : ¬ (zc = (0 : Int32))) :
    MetFree la mn44 (head1 (Cond.code mn44 jc41 4 none :: ws) (rr 5 4 16 122)) (fun aa UU => aa = #[(.ref k), (.ref x), (.ref m), (.ref b)] ∧ Z.Warmed39 UU.vm ∧ UU.heap = hE ∧ CHv Z ELs UU.vm hE ∧ True) (fun _ _ _ _ _ => True) (fun _ UU oo UV => ∃ vv LL, oo = .returned vv ∧ Q_seg Z k x m b t cs zc hE n0 vv UV.heap LL ∧ (CHr Z ELs UU.vm UU.heap UV.vm UV.heap ∧ ∃ ly0 lu0 ly1 lu1 : Addr, Lit (Z.setVm UV.vm) c0_ 105 ly0 ∧ LStr Z UV.heap ly0 lu0 ([(47 : Int32)] : List Int32) ∧ Lit (Z.setVm UV.vm) c0_ 120 ly1 ∧ LStr Z UV.heap ly1 lu1 ([(33 : Int32)] : List Int32)) ∧ ReturnedEndW UU oo UV LL (rr 5 4 16 122).cells (rr 5 4 16 122).slots) := by
  refine MetFree.of_bodySF (plainFor_of_name pn_com_example_beanloft_beanloft_naming_GlobalName) hisR ?_
  intro pg ev sb mi gs below me cd s₁ Bd hml0 hPt hKt
  obtain ⟨rfl, hZ, hh, hH, -⟩ := hPt
  have hx := Bd.exec
  have hby := Bd.bytes
  have hml : cd.maxLocals = 4 := hml0
  have hown : sb.vm.findClass c0_ = some mi.cls := findClass_of_methodNamed Bd.named
  have X0 : Stand pg la ev (rr 5 4 16 122) (sb.setVm sb.vm) mi #[(.ref k), (.ref x), (.ref m), (.ref b)] below me cd s₁ [] 0 0 := Stand.of_body Bd
  have eE : s₁.heap = hE := by rw [← hh, Bd.state]; rfl
  have N0 := Fr.nil n0
  have pre0 : ∀ tt, SP pg ev below (s₁.setTop (mkF mi 0 #[.val (.ref k), .val (.ref x), .val (.ref m), .val (.ref b)] [])) tt → SP pg ev below (s₁.setTop (entryFrame mi #[(.ref k), (.ref x), (.ref m), (.ref b)] 4)) tt := fun tt kk => castTop (ef_seg mi k x m b) kk
  have hS : sb.Since sb.vm 0 := (State.WarmedH.refl sb).since 0
  have hk : 0 ≤ hE.size := Nat.zero_le _
  have hEL := own_EW hw
  have C0 := CHr.refl hH
  obtain ⟨cq101, kq101, q101a, q101b, q101c⟩ := isOf hZ eE (P0_).1
  obtain ⟨v101, _, ⟨T101, L101, k101, n101⟩, -, X101, ⟨Lc101, hQ101, l101, y101, z101⟩, st101⟩ := X0.virtualBack hx (y := mn38) (z := mn38) hown (mvT hZ (wd55 hw)) (mvT hZ (wd56 hw)) (notFace_of_selects (args := #[]) (mvT hZ (wd58 hw))) (mvT hZ (wd58 hw)) (mvT hZ (wd57 hw)) (by decide) (backOf (W := 0) (rm_emp la Z a0 hw [] x t cs hE n0 O P0_ (hne : cs.length ≠ 0)) hZ (wd59 hw) (wd6 hw) (by decide) (by decide)) q101a q101c (g := (mkF mi 5 #[.val (.ref k), .val (.ref x), .val (.ref m), .val (.ref b)] [(.ref x)])) rfl (by rw [hml]; rfl) (Steps.refl _) (argsL := []) (rest := []) (lenOf pd_3 rfl) rfl (Nat.le_of_ble_eq_true rfl) (hb hby dj41_5) (fun _ _ => ⟨rfl, eE, (by decide : 0 + 0 ≤ _), (by decide : 0 + 0 ≤ _)⟩)
  dsimp only [Pt.U, Pt.locs, Pt.cells, Pt.slots] at X101 l101 y101 z101 st101 hQ101
  subst l101 y101 z101
  obtain ⟨rfl, Nq101, ek101⟩ := hQ101
  have N101 := Fr.app N0 Nq101
  obtain ⟨a102, T102, h102, k102, d102, kc102, X102, e102, E102, hs103, hk104, hZ, hown, lE102, lC102, lV102, lA102, -, -, c102, lt105, hne102, st102⟩ := ldcCH (s := sb.setVm sb.vm) X101 hx hZ hown (wd60 hw) (own_wS hw) ek101 ((State.WarmedH.refl (sb.setVm sb.vm)).since 0) (Nat.zero_le _) hEL (by decide +kernel) C0.1 (vs := ([(47 : Int32)] : List Int32).map fun c => Value.int c.toInt8.toInt32) (z := Int32.ofNat ([(47 : Int32)] : List Int32).length) (by decide +kernel) (by decide) (by decide) (g := (mkF mi 12 #[.val (.ref k), .val (.ref x), .val (.ref m), .val (.ref b)] [(.ref x)])) rfl (hb hby dj41_12) (n := 4) (by decide) (by decide) (by decide) (by decide)
  have X102 := own_restand X102
  have hS := hS.trans (⟨hs103.1, hs103.2.mono hk104⟩ : (sb.setVm sb.vm).Since T102.vm h102.size) (Nat.le_trans hk E102.1)
  have hk : h102.size ≤ h102.size := Nat.le_refl _
  have C106 := CHr.trans C0 c102
  have s107 : LStr Z h102 a102 d102 ([(47 : Int32)] : List Int32) := ⟨lE102, lV102, lC102, ⟨_, lA102⟩, (by decide), (by decide)⟩
  have O108 : Old Z n0 h102 := (O.ext E102)
  have f109 : LStr Z h102 x t cs := (P0_.ext E102)
  obtain ⟨cq110, kq110, q110a, q110b, q110c⟩ := isOf hZ e102 (f109).1
  obtain ⟨v110, _, ⟨T110, L110, k110, n110⟩, -, X110, ⟨Lc110, hQ110, l110, y110, z110⟩, st110⟩ := X102.virtualBack hx (y := mn43) (z := mn43) hown (mvT hZ (wd61 hw)) (mvT hZ (wd62 hw)) (notFace_of_selects (args := #[]) (mvT hZ (wd64 hw))) (mvT hZ (wd64 hw)) (mvT hZ (wd63 hw)) (by decide) (backOf (W := 0) (rm_con_47 la Z a0 hw [] x a102 t d102 cs zc h102 n0 O108 f109 s107 D0_ (hne : cs.length ≠ 0) (h47 : ∀ c ∈ cs, ¬ ((c.toInt8.toInt32) = (47 : Int32))) (hzc : ¬ (zc = (0 : Int32)))) hZ (wd65 hw) (wd6 hw) (by decide) (by decide)) q110a q110c (g := (mkF mi 14 #[.val (.ref k), .val (.ref x), .val (.ref m), .val (.ref b)] [(.ref a102), (.ref x)])) rfl (by rw [hml]; rfl) (Steps.refl _) (argsL := [(.ref a102)]) (rest := []) (lenOf pd_26 rfl) rfl (Nat.le_of_ble_eq_true rfl) (hb hby dj41_14) (fun _ _ => ⟨rfl, e102, (by decide : 2 + 0 ≤ _), (by decide : 8 + 0 ≤ _)⟩)
  dsimp only [Pt.U, Pt.locs, Pt.cells, Pt.slots] at X110 l110 y110 z110 st110 hQ110
  subst l110 y110 z110
  obtain ⟨rfl, Nq110, ek110⟩ := hQ110
  have N110 := Fr.app N101 Nq110
  obtain ⟨a111, T111, h111, k111, d111, kc111, X111, e111, E111, hs112, hk113, hZ, hown, lE111, lC111, lV111, lA111, -, -, c111, lt114, hne111, st111⟩ := ldcCH (s := sb.setVm T102.vm) X110 hx hZ hown (wd96 hw) (own_wS hw) ek110 ((State.WarmedH.refl (sb.setVm T102.vm)).since 0) (Nat.zero_le _) hEL (by decide +kernel) C106.1 (vs := ([(33 : Int32)] : List Int32).map fun c => Value.int c.toInt8.toInt32) (z := Int32.ofNat ([(33 : Int32)] : List Int32).length) (by decide +kernel) (by decide) (by decide) (g := (mkF mi 21 #[.val (.ref k), .val (.ref x), .val (.ref m), .val (.ref b)] [(.ref x)])) rfl (hb hby dj41_21) (n := 4) (by decide) (by decide) (by decide) (by decide)
  have X111 := own_restand X111
  have hS := hS.trans (⟨hs112.1, hs112.2.mono hk113⟩ : (sb.setVm T102.vm).Since T111.vm h111.size) (Nat.le_trans hk E111.1)
  have hk : h111.size ≤ h111.size := Nat.le_refl _
  have lt115 := Lit.stays (s := sb) lt105 hs112.1
  have C116 := CHr.trans C106 c111
  have s117 : LStr Z h111 a111 d111 ([(33 : Int32)] : List Int32) := ⟨lE111, lV111, lC111, ⟨_, lA111⟩, (by decide), (by decide)⟩
  have O118 : Old Z n0 h111 := (O108.ext E111)
  have f119 : LStr Z h111 x t cs := (f109.ext E111)
  obtain ⟨cq120, kq120, q120a, q120b, q120c⟩ := isOf hZ e111 (f119).1
  obtain ⟨v120, _, ⟨T120, L120, k120, n120⟩, -, X120, ⟨Lc120, hQ120, l120, y120, z120⟩, st120⟩ := X111.virtualBack hx (y := mn43) (z := mn43) hown (mvT hZ (wd61 hw)) (mvT hZ (wd62 hw)) (notFace_of_selects (args := #[]) (mvT hZ (wd64 hw))) (mvT hZ (wd64 hw)) (mvT hZ (wd63 hw)) (by decide) (backOf (W := 0) (rm_con_33 la Z a0 hw [] x a111 t d111 cs zc h111 n0 O118 f119 s117 D0_ (hne : cs.length ≠ 0) (h33 : ∀ c ∈ cs, ¬ ((c.toInt8.toInt32) = (33 : Int32))) (hzc : ¬ (zc = (0 : Int32)))) hZ (wd65 hw) (wd6 hw) (by decide) (by decide)) q120a q120c (g := (mkF mi 23 #[.val (.ref k), .val (.ref x), .val (.ref m), .val (.ref b)] [(.ref a111), (.ref x)])) rfl (by rw [hml]; rfl) (Steps.refl _) (argsL := [(.ref a111)]) (rest := []) (lenOf pd_26 rfl) rfl (Nat.le_of_ble_eq_true rfl) (hb hby dj41_23) (fun _ _ => ⟨rfl, e111, (by decide : 4 + 0 ≤ _), (by decide : 16 + 0 ≤ _)⟩)
  dsimp only [Pt.U, Pt.locs, Pt.cells, Pt.slots] at X120 l120 y120 z120 st120 hQ120
  subst l120 y120 z120
  obtain ⟨rfl, Nq120, ek120⟩ := hQ120
  have N120 := Fr.app N110 Nq120
  obtain ⟨fs, hr, hrun, hended, hWe⟩ := X120.leaveW hS (show _ ≤ T120.heap.size by rw [ek120]; exact hk) (v := none) (fun _ => rfl)
  refine ⟨_, _, pre0 _ ?_, hrun, hended, _, _, rfl, ?_, ?_, hWe.1, hWe.2.1, hWe.2.2.1, hWe.2.2.2.mono (by decide) (by decide)⟩
  · show SP pg ev below (s₁.setTop (mkF mi 0 #[.val (.ref k), .val (.ref x), .val (.ref m), .val (.ref b)] [])) _
    refine XS.aloadN X0.here hx rfl (hb hby dj41_0) rfl rfl ?_
    refine XS.ifnullNo X0.here hx rfl (hb hby dj41_1) rfl ?_
    refine XS.aloadN X0.here hx rfl (hb hby dj41_4) rfl rfl ?_
    refine st101.trans ?_
    refine XS.ifNo X101.here hx rfl (hb hby dj41_8) rfl ((if0 _ _).trans (teq (rfl : (0 : Int32) = (0 : Int32))).2) ?_
    refine XS.aloadN X101.here hx rfl (hb hby dj41_11) rfl rfl ?_
    refine st102 _ ?_
    refine st110.trans ?_
    refine XS.ifNo X110.here hx rfl (hb hby dj41_17) rfl ((if0 _ _).trans (teq (rfl : (0 : Int32) = (0 : Int32))).2) ?_
    refine XS.aloadN X110.here hx rfl (hb hby dj41_20) rfl rfl ?_
    refine st111 _ ?_
    refine st120.trans ?_
    refine XS.ifYes X120.here hx rfl (pc0 := 26) (pc' := 62) rfl (hb hby dj41_26) rfl ((if0 _ _).trans (teq (rfl : (0 : Int32) = (0 : Int32))).1) (by decide) (by decide) ?_
    show SP pg ev below (T120.setTop (mkF mi 62 #[.val (.ref k), .val (.ref x), .val (.ref m), .val (.ref b)] [])) _
    exact X120.returnOut hx Bd.returns (hb hby dj41_62) hr
  · show Q_seg Z k x m b t cs zc hE n0 _ T120.heap _
    rw [ek120]
    exact ⟨rfl, N120, (((Keep.refl hE []).ext E102).ext E111)⟩
  have f121 : LStr Z h111 a102 d102 ([(47 : Int32)] : List Int32) := (s107.ext E111)
  · show CHr Z ELs sb.vm sb.heap T120.vm T120.heap ∧ ∃ ly0 lu0 ly1 lu1 : Addr, Lit (Z.setVm T120.vm) c0_ 105 ly0 ∧ LStr Z T120.heap ly0 lu0 ([(47 : Int32)] : List Int32) ∧ Lit (Z.setVm T120.vm) c0_ 120 ly1 ∧ LStr Z T120.heap ly1 lu1 ([(33 : Int32)] : List Int32)
    rw [hh, ek120]
    exact ⟨CHr.trans C116 (CHv.at X120 hZ hEL C116.1), a102, d102, a111, d111, Lit.stays (s := sb) lt115 (X120.warmed.since 0).1, f121, Lit.stays (s := sb) lt114 (X120.warmed.since 0).1, s117⟩
theorem ef_segL (mi : MethodId) (k : Addr) (x : Addr) (m : Addr) (b : Addr) : entryFrame mi #[(.ref k), (.ref x), (.ref m), (.ref b)] 4 = mkF mi 0 #[.val (.ref k), .val (.ref x), .val (.ref m), .val (.ref b)] [] := rfl
def Q_segL (Z : State) (k x m b t y47 u47 y33 u33 : Addr) (cs : List Int32) (zc : Int32) (hE : Heap) (n0 : Nat) (vv : Option Value) (hh : Heap) (LL : List Loc) : Prop := (vv = none) ∧ (Fr n0 LL) ∧ (Keep hE hh [])
theorem rm_segL (hw : HW a0 Z) (ws : List Cond) (k x m b t y47 u47 y33 u33 : Addr) (cs : List Int32) (zc : Int32) (hE : Heap) (n0 : Nat) (O : Old Z n0 hE) (P0_ : LStr Z hE x t cs) (P1_ : LStr Z hE y47 u47 ([(47 : Int32)] : List Int32)) (P2_ : LStr Z hE y33 u33 ([(33 : Int32)] : List Int32)) (D0_ : Sta Z Z.heap c1_ c5_ "Z" (.int zc)) (hne : cs.length ≠ 0) (h47 : ∀ c ∈ cs, ¬ ((c.toInt8.toInt32) = (47 : Int32))) (h33 : ∀ c ∈ cs, ¬ ((c.toInt8.toInt32) = (33 : Int32))) (hzc : ¬ (zc = (0 : Int32))) :
    MetFree la mn44 (head1 (Cond.code mn44 jc41 4 none :: ws) (rr 5 0 0 122)) (fun aa UU => aa = #[(.ref k), (.ref x), (.ref m), (.ref b)] ∧ Z.Warmed39 UU.vm ∧ UU.heap = hE ∧ CHv Z ELs UU.vm hE ∧ Lit (Z.setVm UU.vm) c0_ 105 y47 ∧ Lit (Z.setVm UU.vm) c0_ 120 y33) (fun _ _ _ _ _ => True) (fun _ UU oo UV => ∃ vv LL, oo = .returned vv ∧ Q_segL Z k x m b t y47 u47 y33 u33 cs zc hE n0 vv UV.heap LL ∧ (CHr Z ELs UU.vm UU.heap UV.vm UV.heap ∧ True) ∧ ReturnedEndW UU oo UV LL (rr 5 0 0 122).cells (rr 5 0 0 122).slots) := by
  refine MetFree.of_bodySF (plainFor_of_name pn_com_example_beanloft_beanloft_naming_GlobalName) hisR ?_
  intro pg ev sb mi gs below me cd s₁ Bd hml0 hPt hKt
  obtain ⟨rfl, hZ, hh, hH, hl_0, hl_1⟩ := hPt
  have hx := Bd.exec
  have hby := Bd.bytes
  have hml : cd.maxLocals = 4 := hml0
  have hown : sb.vm.findClass c0_ = some mi.cls := findClass_of_methodNamed Bd.named
  have X0 : Stand pg la ev (rr 5 0 0 122) (sb.setVm sb.vm) mi #[(.ref k), (.ref x), (.ref m), (.ref b)] below me cd s₁ [] 0 0 := Stand.of_body Bd
  have eE : s₁.heap = hE := by rw [← hh, Bd.state]; rfl
  have N0 := Fr.nil n0
  have pre0 : ∀ tt, SP pg ev below (s₁.setTop (mkF mi 0 #[.val (.ref k), .val (.ref x), .val (.ref m), .val (.ref b)] [])) tt → SP pg ev below (s₁.setTop (entryFrame mi #[(.ref k), (.ref x), (.ref m), (.ref b)] 4)) tt := fun tt kk => castTop (ef_segL mi k x m b) kk
  have hS : sb.Since sb.vm 0 := (State.WarmedH.refl sb).since 0
  have hk : 0 ≤ hE.size := Nat.zero_le _
  have hEL := own_EW hw
  have C0 := CHr.refl hH
  obtain ⟨cq101, kq101, q101a, q101b, q101c⟩ := isOf hZ eE (P0_).1
  obtain ⟨v101, _, ⟨T101, L101, k101, n101⟩, -, X101, ⟨Lc101, hQ101, l101, y101, z101⟩, st101⟩ := X0.virtualBack hx (y := mn38) (z := mn38) hown (mvT hZ (wd55 hw)) (mvT hZ (wd56 hw)) (notFace_of_selects (args := #[]) (mvT hZ (wd58 hw))) (mvT hZ (wd58 hw)) (mvT hZ (wd57 hw)) (by decide) (backOf (W := 0) (rm_emp la Z a0 hw [] x t cs hE n0 O P0_ (hne : cs.length ≠ 0)) hZ (wd59 hw) (wd6 hw) (by decide) (by decide)) q101a q101c (g := (mkF mi 5 #[.val (.ref k), .val (.ref x), .val (.ref m), .val (.ref b)] [(.ref x)])) rfl (by rw [hml]; rfl) (Steps.refl _) (argsL := []) (rest := []) (lenOf pd_3 rfl) rfl (Nat.le_of_ble_eq_true rfl) (hb hby dj41_5) (fun _ _ => ⟨rfl, eE, (by decide : 0 + 0 ≤ _), (by decide : 0 + 0 ≤ _)⟩)
  dsimp only [Pt.U, Pt.locs, Pt.cells, Pt.slots] at X101 l101 y101 z101 st101 hQ101
  subst l101 y101 z101
  obtain ⟨rfl, Nq101, ek101⟩ := hQ101
  have N101 := Fr.app N0 Nq101
  have st102 := ldcAgain (s := sb) X101 hx hZ hown (wd60 hw) hl_0 (g := (mkF mi 12 #[.val (.ref k), .val (.ref x), .val (.ref m), .val (.ref b)] [(.ref x)])) rfl (hb hby dj41_12)
  obtain ⟨cq103, kq103, q103a, q103b, q103c⟩ := isOf hZ ek101 (P0_).1
  obtain ⟨v103, _, ⟨T103, L103, k103, n103⟩, -, X103, ⟨Lc103, hQ103, l103, y103, z103⟩, st103⟩ := X101.virtualBack hx (y := mn43) (z := mn43) hown (mvT hZ (wd61 hw)) (mvT hZ (wd62 hw)) (notFace_of_selects (args := #[]) (mvT hZ (wd64 hw))) (mvT hZ (wd64 hw)) (mvT hZ (wd63 hw)) (by decide) (backOf (W := 0) (rm_con_47 la Z a0 hw [] x y47 t u47 cs zc hE n0 O P0_ P1_ D0_ (hne : cs.length ≠ 0) (h47 : ∀ c ∈ cs, ¬ ((c.toInt8.toInt32) = (47 : Int32))) (hzc : ¬ (zc = (0 : Int32)))) hZ (wd65 hw) (wd6 hw) (by decide) (by decide)) q103a q103c (g := (mkF mi 14 #[.val (.ref k), .val (.ref x), .val (.ref m), .val (.ref b)] [(.ref y47), (.ref x)])) rfl (by rw [hml]; rfl) (Steps.refl _) (argsL := [(.ref y47)]) (rest := []) (lenOf pd_26 rfl) rfl (Nat.le_of_ble_eq_true rfl) (hb hby dj41_14) (fun _ _ => ⟨rfl, ek101, (by decide : 0 + 0 ≤ _), (by decide : 0 + 0 ≤ _)⟩)
  dsimp only [Pt.U, Pt.locs, Pt.cells, Pt.slots] at X103 l103 y103 z103 st103 hQ103
  subst l103 y103 z103
  obtain ⟨rfl, Nq103, ek103⟩ := hQ103
  have N103 := Fr.app N101 Nq103
  have st104 := ldcAgain (s := sb) X103 hx hZ hown (wd96 hw) hl_1 (g := (mkF mi 21 #[.val (.ref k), .val (.ref x), .val (.ref m), .val (.ref b)] [(.ref x)])) rfl (hb hby dj41_21)
  obtain ⟨cq105, kq105, q105a, q105b, q105c⟩ := isOf hZ ek103 (P0_).1
  obtain ⟨v105, _, ⟨T105, L105, k105, n105⟩, -, X105, ⟨Lc105, hQ105, l105, y105, z105⟩, st105⟩ := X103.virtualBack hx (y := mn43) (z := mn43) hown (mvT hZ (wd61 hw)) (mvT hZ (wd62 hw)) (notFace_of_selects (args := #[]) (mvT hZ (wd64 hw))) (mvT hZ (wd64 hw)) (mvT hZ (wd63 hw)) (by decide) (backOf (W := 0) (rm_con_33 la Z a0 hw [] x y33 t u33 cs zc hE n0 O P0_ P2_ D0_ (hne : cs.length ≠ 0) (h33 : ∀ c ∈ cs, ¬ ((c.toInt8.toInt32) = (33 : Int32))) (hzc : ¬ (zc = (0 : Int32)))) hZ (wd65 hw) (wd6 hw) (by decide) (by decide)) q105a q105c (g := (mkF mi 23 #[.val (.ref k), .val (.ref x), .val (.ref m), .val (.ref b)] [(.ref y33), (.ref x)])) rfl (by rw [hml]; rfl) (Steps.refl _) (argsL := [(.ref y33)]) (rest := []) (lenOf pd_26 rfl) rfl (Nat.le_of_ble_eq_true rfl) (hb hby dj41_23) (fun _ _ => ⟨rfl, ek103, (by decide : 0 + 0 ≤ _), (by decide : 0 + 0 ≤ _)⟩)
  dsimp only [Pt.U, Pt.locs, Pt.cells, Pt.slots] at X105 l105 y105 z105 st105 hQ105
  subst l105 y105 z105
  obtain ⟨rfl, Nq105, ek105⟩ := hQ105
  have N105 := Fr.app N103 Nq105
  obtain ⟨fs, hr, hrun, hended, hWe⟩ := X105.leaveW hS (show _ ≤ T105.heap.size by rw [ek105]; exact hk) (v := none) (fun _ => rfl)
  refine ⟨_, _, pre0 _ ?_, hrun, hended, _, _, rfl, ?_, ?_, hWe.1, hWe.2.1, hWe.2.2.1, hWe.2.2.2.mono (by decide) (by decide)⟩
  · show SP pg ev below (s₁.setTop (mkF mi 0 #[.val (.ref k), .val (.ref x), .val (.ref m), .val (.ref b)] [])) _
    refine XS.aloadN X0.here hx rfl (hb hby dj41_0) rfl rfl ?_
    refine XS.ifnullNo X0.here hx rfl (hb hby dj41_1) rfl ?_
    refine XS.aloadN X0.here hx rfl (hb hby dj41_4) rfl rfl ?_
    refine st101.trans ?_
    refine XS.ifNo X101.here hx rfl (hb hby dj41_8) rfl ((if0 _ _).trans (teq (rfl : (0 : Int32) = (0 : Int32))).2) ?_
    refine XS.aloadN X101.here hx rfl (hb hby dj41_11) rfl rfl ?_
    refine st102 _ ?_
    refine st103.trans ?_
    refine XS.ifNo X103.here hx rfl (hb hby dj41_17) rfl ((if0 _ _).trans (teq (rfl : (0 : Int32) = (0 : Int32))).2) ?_
    refine XS.aloadN X103.here hx rfl (hb hby dj41_20) rfl rfl ?_
    refine st104 _ ?_
    refine st105.trans ?_
    refine XS.ifYes X105.here hx rfl (pc0 := 26) (pc' := 62) rfl (hb hby dj41_26) rfl ((if0 _ _).trans (teq (rfl : (0 : Int32) = (0 : Int32))).1) (by decide) (by decide) ?_
    show SP pg ev below (T105.setTop (mkF mi 62 #[.val (.ref k), .val (.ref x), .val (.ref m), .val (.ref b)] [])) _
    exact X105.returnOut hx Bd.returns (hb hby dj41_62) hr
  · show Q_segL Z k x m b t y47 u47 y33 u33 cs zc hE n0 _ T105.heap _
    rw [ek105]
    exact ⟨rfl, N105, (Keep.refl hE [])⟩
  · show CHr Z ELs sb.vm sb.heap T105.vm T105.heap ∧ True
    rw [hh, ek105]
    exact ⟨CHr.trans C0 (CHv.at X105 hZ hEL C0.1), trivial⟩
theorem ef_segN (mi : MethodId) (k : Addr) (m : Addr) (b : Addr) : entryFrame mi #[(.ref k), .null, (.ref m), (.ref b)] 4 = mkF mi 0 #[.val (.ref k), .val .null, .val (.ref m), .val (.ref b)] [] := rfl
def Q_segN (Z : State) (k m b : Addr) (hE : Heap) (n0 : Nat) (vv : Option Value) (hh : Heap) (LL : List Loc) : Prop := (vv = none) ∧ (Fr n0 LL) ∧ (hh = hE)
theorem rm_segN (hw : HW a0 Z) (ws : List Cond) (k m b : Addr) (hE : Heap) (n0 : Nat) (O : Old Z n0 hE) :
    MF la Z hE mn44 jc41 4 none ws (rr 0 0 0 0) #[(.ref k), .null, (.ref m), (.ref b)] (Q_segN Z k m b hE n0) := by
  refine MetFree.of_bodySF (plainFor_of_name pn_com_example_beanloft_beanloft_naming_GlobalName) hisR ?_
  intro pg ev sb mi gs below me cd s₁ Bd hml0 hPt hKt
  obtain ⟨rfl, hZ, hh⟩ := hPt
  have hx := Bd.exec
  have hby := Bd.bytes
  have hml : cd.maxLocals = 4 := hml0
  have hown : sb.vm.findClass c0_ = some mi.cls := findClass_of_methodNamed Bd.named
  have X0 : Stand pg la ev (rr 0 0 0 0) sb mi #[(.ref k), .null, (.ref m), (.ref b)] below me cd s₁ [] 0 0 := Stand.of_body Bd
  have eE : s₁.heap = hE := by rw [← hh, Bd.state]; rfl
  have N0 := Fr.nil n0
  have pre0 : ∀ tt, SP pg ev below (s₁.setTop (mkF mi 0 #[.val (.ref k), .val .null, .val (.ref m), .val (.ref b)] [])) tt → SP pg ev below (s₁.setTop (entryFrame mi #[(.ref k), .null, (.ref m), (.ref b)] 4)) tt := fun tt kk => castTop (ef_segN mi k m b) kk
  obtain ⟨fs, hr, hrun, hended, hW, hsame⟩ := X0.leave (v := none) (fun _ => rfl)
  refine ⟨_, _, pre0 _ ?_, hrun, hended, _, _, rfl, ?_, ⟨_, rfl⟩, hW, hsame.mono (by decide) (by decide)⟩
  · show SP pg ev below (s₁.setTop (mkF mi 0 #[.val (.ref k), .val .null, .val (.ref m), .val (.ref b)] [])) _
    refine XS.aloadN X0.here hx rfl (hb hby dj41_0) rfl rfl ?_
    refine XS.ifnullYes X0.here hx rfl (pc0 := 1) (pc' := 62) rfl (hb hby dj41_1) rfl (by decide) (by decide) ?_
    show SP pg ev below (s₁.setTop (mkF mi 62 #[.val (.ref k), .val .null, .val (.ref m), .val (.ref b)] [])) _
    exact X0.returnOut hx Bd.returns (hb hby dj41_62) hr
  · show Q_segN Z k m b hE n0 _ s₁.heap _
    rw [eE]
    exact ⟨rfl, N0, rfl⟩

def OStr (Z : State) (h : Heap) (v : Value) (cs : List Int32) : Prop := v = .null ∨ ∃ a t : Addr, v = .ref a ∧ LStr Z h a t cs
theorem OStr.ext {Z : State} {h h' : Heap} {v : Value} {cs : List Int32} (F : OStr Z h v cs) (E : Ext h h') : OStr Z h' v cs := F.imp id fun ⟨a, t, e, S⟩ => ⟨a, t, e, S.ext E⟩
theorem OStr.keep {Z : State} {h h' : Heap} {v : Value} {cs : List Int32} (F : OStr Z h v cs) (K : Keep h h' []) : OStr Z h' v cs := F.imp id fun ⟨a, t, e, S⟩ => ⟨a, t, e, S.keep K nin0 nin0⟩
theorem OStr.isRef {Z : State} {h : Heap} {v : Value} {cs : List Int32} (F : OStr Z h v cs) : v.isRef = true := by rcases F with rfl | ⟨a, t, rfl, -⟩ <;> rfl
theorem own_narX {v : Value} {c : String} (h : v.isRef = true) : narrow (.object c) v = v := by rcases ref_cases h with rfl | ⟨_, rfl⟩ <;> rfl
theorem own_fitX {v : Value} {c : String} (h : v.isRef = true) : fits (.object c) v = true := by rcases ref_cases h with rfl | ⟨_, rfl⟩ <;> rfl

theorem ef_segP (mi : MethodId) (k : Addr) (x : Addr) (m : Addr) (b : Addr) : entryFrame mi #[(.ref k), (.ref x), (.ref m), (.ref b)] 4 = mkF mi 0 #[.val (.ref k), .val (.ref x), .val (.ref m), .val (.ref b)] [] := rfl
def Q_segP (Z : State) (k x m b t : Addr) (cs : List Int32) (zc : Int32) (hE : Heap) (n0 : Nat) (vv : Option Value) (hh : Heap) (LL : List Loc) : Prop := (vv = none) ∧ (Fr n0 LL) ∧ (Keep hE hh [])
theorem rm_segP (hw : HW a0 Z) (ws : List Cond) (k x m b t : Addr) (cs : List Int32) (zc : Int32) (hE : Heap) (n0 : Nat) (O : Old Z n0 hE) (P0_ : LStr Z hE x t cs) (D0_ : Sta Z Z.heap c1_ c5_ "Z" (.int zc)) (hne : cs.length ≠ 0) (h47 : ∀ c ∈ cs, ¬ ((c.toInt8.toInt32) = (47 : Int32))) (h33 : ∀ c ∈ cs, ¬ ((c.toInt8.toInt32) = (33 : Int32))) (hzc : ¬ (zc = (0 : Int32))) :
    MW la Z hE mn44 jc41 4 none ws (rr 5 4 16 122) #[(.ref k), (.ref x), (.ref m), (.ref b)] (Q_segP Z k x m b t cs zc hE n0) := by
  refine MetFree.of_bodySF (plainFor_of_name pn_com_example_beanloft_beanloft_naming_GlobalName) hisR ?_
  intro pg ev sb mi gs below me cd s₁ Bd hml0 hPt hKt
  obtain ⟨rfl, hZ, hh, hH⟩ := hPt
  have hx := Bd.exec
  have hby := Bd.bytes
  have hml : cd.maxLocals = 4 := hml0
  have hown : sb.vm.findClass c0_ = some mi.cls := findClass_of_methodNamed Bd.named
  have X0 : Stand pg la ev (rr 5 4 16 122) (sb.setVm sb.vm) mi #[(.ref k), (.ref x), (.ref m), (.ref b)] below me cd s₁ [] 0 0 := Stand.of_body Bd
  have eE : s₁.heap = hE := by rw [← hh, Bd.state]; rfl
  have N0 := Fr.nil n0
  have pre0 : ∀ tt, SP pg ev below (s₁.setTop (mkF mi 0 #[.val (.ref k), .val (.ref x), .val (.ref m), .val (.ref b)] [])) tt → SP pg ev below (s₁.setTop (entryFrame mi #[(.ref k), (.ref x), (.ref m), (.ref b)] 4)) tt := fun tt kk => castTop (ef_segP mi k x m b) kk
  have hS : sb.Since sb.vm 0 := (State.WarmedH.refl sb).since 0
  have hk : 0 ≤ hE.size := Nat.zero_le _
  have hEL := own_EW hw
  have C0 := CHr.refl hH
  obtain ⟨cq101, kq101, q101a, q101b, q101c⟩ := isOf hZ eE (P0_).1
  obtain ⟨v101, _, ⟨T101, L101, k101, n101⟩, -, X101, ⟨Lc101, hQ101, l101, y101, z101⟩, st101⟩ := X0.virtualBack hx (y := mn38) (z := mn38) hown (mvT hZ (wd55 hw)) (mvT hZ (wd56 hw)) (notFace_of_selects (args := #[]) (mvT hZ (wd58 hw))) (mvT hZ (wd58 hw)) (mvT hZ (wd57 hw)) (by decide) (backOf (W := 0) (rm_emp la Z a0 hw [] x t cs hE n0 O P0_ (hne : cs.length ≠ 0)) hZ (wd59 hw) (wd6 hw) (by decide) (by decide)) q101a q101c (g := (mkF mi 5 #[.val (.ref k), .val (.ref x), .val (.ref m), .val (.ref b)] [(.ref x)])) rfl (by rw [hml]; rfl) (Steps.refl _) (argsL := []) (rest := []) (lenOf pd_3 rfl) rfl (Nat.le_of_ble_eq_true rfl) (hb hby dj41_5) (fun _ _ => ⟨rfl, eE, (by decide : 0 + 0 ≤ _), (by decide : 0 + 0 ≤ _)⟩)
  dsimp only [Pt.U, Pt.locs, Pt.cells, Pt.slots] at X101 l101 y101 z101 st101 hQ101
  subst l101 y101 z101
  obtain ⟨rfl, Nq101, ek101⟩ := hQ101
  have N101 := Fr.app N0 Nq101
  obtain ⟨a102, T102, h102, k102, d102, kc102, X102, e102, E102, hS, hk, hZ, hown, lE102, lC102, lV102, lA102, -, -, c102, -, hne102, st102⟩ := ldcCH X101 hx hZ hown (wd60 hw) (own_wS hw) ek101 hS hk hEL (by decide +kernel) C0.1 (vs := ([(47 : Int32)] : List Int32).map fun c => Value.int c.toInt8.toInt32) (z := Int32.ofNat ([(47 : Int32)] : List Int32).length) (by decide +kernel) (by decide) (by decide) (g := (mkF mi 12 #[.val (.ref k), .val (.ref x), .val (.ref m), .val (.ref b)] [(.ref x)])) rfl (hb hby dj41_12) (n := 4) (by decide) (by decide) (by decide) (by decide)
  have C103 := CHr.trans C0 c102
  have s104 : LStr Z h102 a102 d102 ([(47 : Int32)] : List Int32) := ⟨lE102, lV102, lC102, ⟨_, lA102⟩, (by decide), (by decide)⟩
  have O105 : Old Z n0 h102 := (O.ext E102)
  have f106 : LStr Z h102 x t cs := (P0_.ext E102)
  obtain ⟨cq107, kq107, q107a, q107b, q107c⟩ := isOf hZ e102 (f106).1
  obtain ⟨v107, _, ⟨T107, L107, k107, n107⟩, -, X107, ⟨Lc107, hQ107, l107, y107, z107⟩, st107⟩ := X102.virtualBack hx (y := mn43) (z := mn43) hown (mvT hZ (wd61 hw)) (mvT hZ (wd62 hw)) (notFace_of_selects (args := #[]) (mvT hZ (wd64 hw))) (mvT hZ (wd64 hw)) (mvT hZ (wd63 hw)) (by decide) (backOf (W := 0) (rm_con_47 la Z a0 hw [] x a102 t d102 cs zc h102 n0 O105 f106 s104 D0_ (hne : cs.length ≠ 0) (h47 : ∀ c ∈ cs, ¬ ((c.toInt8.toInt32) = (47 : Int32))) (hzc : ¬ (zc = (0 : Int32)))) hZ (wd65 hw) (wd6 hw) (by decide) (by decide)) q107a q107c (g := (mkF mi 14 #[.val (.ref k), .val (.ref x), .val (.ref m), .val (.ref b)] [(.ref a102), (.ref x)])) rfl (by rw [hml]; rfl) (Steps.refl _) (argsL := [(.ref a102)]) (rest := []) (lenOf pd_26 rfl) rfl (Nat.le_of_ble_eq_true rfl) (hb hby dj41_14) (fun _ _ => ⟨rfl, e102, (by decide : 2 + 0 ≤ _), (by decide : 8 + 0 ≤ _)⟩)
  dsimp only [Pt.U, Pt.locs, Pt.cells, Pt.slots] at X107 l107 y107 z107 st107 hQ107
  subst l107 y107 z107
  obtain ⟨rfl, Nq107, ek107⟩ := hQ107
  have N107 := Fr.app N101 Nq107
  obtain ⟨a108, T108, h108, k108, d108, kc108, X108, e108, E108, hS, hk, hZ, hown, lE108, lC108, lV108, lA108, -, -, c108, -, hne108, st108⟩ := ldcCH X107 hx hZ hown (wd96 hw) (own_wS hw) ek107 hS hk hEL (by decide +kernel) C103.1 (vs := ([(33 : Int32)] : List Int32).map fun c => Value.int c.toInt8.toInt32) (z := Int32.ofNat ([(33 : Int32)] : List Int32).length) (by decide +kernel) (by decide) (by decide) (g := (mkF mi 21 #[.val (.ref k), .val (.ref x), .val (.ref m), .val (.ref b)] [(.ref x)])) rfl (hb hby dj41_21) (n := 4) (by decide) (by decide) (by decide) (by decide)
  have C109 := CHr.trans C103 c108
  have s110 : LStr Z h108 a108 d108 ([(33 : Int32)] : List Int32) := ⟨lE108, lV108, lC108, ⟨_, lA108⟩, (by decide), (by decide)⟩
  have O111 : Old Z n0 h108 := (O105.ext E108)
  have f112 : LStr Z h108 x t cs := (f106.ext E108)
  obtain ⟨cq113, kq113, q113a, q113b, q113c⟩ := isOf hZ e108 (f112).1
  obtain ⟨v113, _, ⟨T113, L113, k113, n113⟩, -, X113, ⟨Lc113, hQ113, l113, y113, z113⟩, st113⟩ := X108.virtualBack hx (y := mn43) (z := mn43) hown (mvT hZ (wd61 hw)) (mvT hZ (wd62 hw)) (notFace_of_selects (args := #[]) (mvT hZ (wd64 hw))) (mvT hZ (wd64 hw)) (mvT hZ (wd63 hw)) (by decide) (backOf (W := 0) (rm_con_33 la Z a0 hw [] x a108 t d108 cs zc h108 n0 O111 f112 s110 D0_ (hne : cs.length ≠ 0) (h33 : ∀ c ∈ cs, ¬ ((c.toInt8.toInt32) = (33 : Int32))) (hzc : ¬ (zc = (0 : Int32)))) hZ (wd65 hw) (wd6 hw) (by decide) (by decide)) q113a q113c (g := (mkF mi 23 #[.val (.ref k), .val (.ref x), .val (.ref m), .val (.ref b)] [(.ref a108), (.ref x)])) rfl (by rw [hml]; rfl) (Steps.refl _) (argsL := [(.ref a108)]) (rest := []) (lenOf pd_26 rfl) rfl (Nat.le_of_ble_eq_true rfl) (hb hby dj41_23) (fun _ _ => ⟨rfl, e108, (by decide : 4 + 0 ≤ _), (by decide : 16 + 0 ≤ _)⟩)
  dsimp only [Pt.U, Pt.locs, Pt.cells, Pt.slots] at X113 l113 y113 z113 st113 hQ113
  subst l113 y113 z113
  obtain ⟨rfl, Nq113, ek113⟩ := hQ113
  have N113 := Fr.app N107 Nq113
  obtain ⟨fs, hr, hrun, hended, hWe⟩ := X113.leaveW hS (show _ ≤ T113.heap.size by rw [ek113]; exact hk) (v := none) (fun _ => rfl)
  refine ⟨_, _, pre0 _ ?_, hrun, hended, _, _, rfl, ?_, ?_, hWe.1, hWe.2.1, hWe.2.2.1, hWe.2.2.2.mono (by decide) (by decide)⟩
  · show SP pg ev below (s₁.setTop (mkF mi 0 #[.val (.ref k), .val (.ref x), .val (.ref m), .val (.ref b)] [])) _
    refine XS.aloadN X0.here hx rfl (hb hby dj41_0) rfl rfl ?_
    refine XS.ifnullNo X0.here hx rfl (hb hby dj41_1) rfl ?_
    refine XS.aloadN X0.here hx rfl (hb hby dj41_4) rfl rfl ?_
    refine st101.trans ?_
    refine XS.ifNo X101.here hx rfl (hb hby dj41_8) rfl ((if0 _ _).trans (teq (rfl : (0 : Int32) = (0 : Int32))).2) ?_
    refine XS.aloadN X101.here hx rfl (hb hby dj41_11) rfl rfl ?_
    refine st102 _ ?_
    refine st107.trans ?_
    refine XS.ifNo X107.here hx rfl (hb hby dj41_17) rfl ((if0 _ _).trans (teq (rfl : (0 : Int32) = (0 : Int32))).2) ?_
    refine XS.aloadN X107.here hx rfl (hb hby dj41_20) rfl rfl ?_
    refine st108 _ ?_
    refine st113.trans ?_
    refine XS.ifYes X113.here hx rfl (pc0 := 26) (pc' := 62) rfl (hb hby dj41_26) rfl ((if0 _ _).trans (teq (rfl : (0 : Int32) = (0 : Int32))).1) (by decide) (by decide) ?_
    show SP pg ev below (T113.setTop (mkF mi 62 #[.val (.ref k), .val (.ref x), .val (.ref m), .val (.ref b)] [])) _
    exact X113.returnOut hx Bd.returns (hb hby dj41_62) hr
  · show Q_segP Z k x m b t cs zc hE n0 _ T113.heap _
    rw [ek113]
    exact ⟨rfl, N113, (((Keep.refl hE []).ext E102).ext E108)⟩
  · show CHr Z ELs sb.vm sb.heap T113.vm T113.heap
    rw [hh, ek113]
    exact CHr.trans C109 (CHv.at X113 hZ hEL C109.1)
theorem ef_segQ (mi : MethodId) (k : Addr) (m : Addr) (b : Addr) : entryFrame mi #[(.ref k), .null, (.ref m), (.ref b)] 4 = mkF mi 0 #[.val (.ref k), .val .null, .val (.ref m), .val (.ref b)] [] := rfl
def Q_segQ (Z : State) (k m b : Addr) (hE : Heap) (n0 : Nat) (vv : Option Value) (hh : Heap) (LL : List Loc) : Prop := (vv = none) ∧ (Fr n0 LL) ∧ (Keep hE hh [])
theorem rm_segQ (hw : HW a0 Z) (ws : List Cond) (k m b : Addr) (hE : Heap) (n0 : Nat) (O : Old Z n0 hE) :
    MW la Z hE mn44 jc41 4 none ws (rr 5 4 16 122) #[(.ref k), .null, (.ref m), (.ref b)] (Q_segQ Z k m b hE n0) := by
  refine MetFree.of_bodySF (plainFor_of_name pn_com_example_beanloft_beanloft_naming_GlobalName) hisR ?_
  intro pg ev sb mi gs below me cd s₁ Bd hml0 hPt hKt
  obtain ⟨rfl, hZ, hh, hH⟩ := hPt
  have hx := Bd.exec
  have hby := Bd.bytes
  have hml : cd.maxLocals = 4 := hml0
  have hown : sb.vm.findClass c0_ = some mi.cls := findClass_of_methodNamed Bd.named
  have X0 : Stand pg la ev (rr 5 4 16 122) (sb.setVm sb.vm) mi #[(.ref k), .null, (.ref m), (.ref b)] below me cd s₁ [] 0 0 := Stand.of_body Bd
  have eE : s₁.heap = hE := by rw [← hh, Bd.state]; rfl
  have N0 := Fr.nil n0
  have pre0 : ∀ tt, SP pg ev below (s₁.setTop (mkF mi 0 #[.val (.ref k), .val .null, .val (.ref m), .val (.ref b)] [])) tt → SP pg ev below (s₁.setTop (entryFrame mi #[(.ref k), .null, (.ref m), (.ref b)] 4)) tt := fun tt kk => castTop (ef_segQ mi k m b) kk
  have hS : sb.Since sb.vm 0 := (State.WarmedH.refl sb).since 0
  have hk : 0 ≤ hE.size := Nat.zero_le _
  have hEL := own_EW hw
  have C0 := CHr.refl hH
  obtain ⟨fs, hr, hrun, hended, hWe⟩ := X0.leaveW hS (show _ ≤ s₁.heap.size by rw [eE]; exact hk) (v := none) (fun _ => rfl)
  refine ⟨_, _, pre0 _ ?_, hrun, hended, _, _, rfl, ?_, ?_, hWe.1, hWe.2.1, hWe.2.2.1, hWe.2.2.2.mono (by decide) (by decide)⟩
  · show SP pg ev below (s₁.setTop (mkF mi 0 #[.val (.ref k), .val .null, .val (.ref m), .val (.ref b)] [])) _
    refine XS.aloadN X0.here hx rfl (hb hby dj41_0) rfl rfl ?_
    refine XS.ifnullYes X0.here hx rfl (pc0 := 1) (pc' := 62) rfl (hb hby dj41_1) rfl (by decide) (by decide) ?_
    show SP pg ev below (s₁.setTop (mkF mi 62 #[.val (.ref k), .val .null, .val (.ref m), .val (.ref b)] [])) _
    exact X0.returnOut hx Bd.returns (hb hby dj41_62) hr
  · show Q_segQ Z k m b hE n0 _ s₁.heap _
    rw [eE]
    exact ⟨rfl, N0, (Keep.refl hE [])⟩
  · show CHr Z ELs sb.vm sb.heap s₁.vm s₁.heap
    rw [hh, eE]
    exact CHr.trans C0 (CHv.at X0 hZ hEL C0.1)
def Q_segX (Z : State) (k : Addr) (va : Value) (m b : Addr) (cs : List Int32) (zc : Int32) (hE : Heap) (n0 : Nat) (vv : Option Value) (hh : Heap) (LL : List Loc) : Prop := (vv = none) ∧ (Fr n0 LL) ∧ (Keep hE hh [])
theorem rm_segX (hw : HW a0 Z) (ws : List Cond) (k : Addr) (va : Value) (m b : Addr) (cs : List Int32) (zc : Int32) (hE : Heap) (n0 : Nat) (O : Old Z n0 hE) (P0_ : OStr Z hE va cs) (D0_ : Sta Z Z.heap c1_ c5_ "Z" (.int zc)) (hne : cs.length ≠ 0) (h47 : ∀ c ∈ cs, ¬ ((c.toInt8.toInt32) = (47 : Int32))) (h33 : ∀ c ∈ cs, ¬ ((c.toInt8.toInt32) = (33 : Int32))) (hzc : ¬ (zc = (0 : Int32))) :
    MW la Z hE mn44 jc41 4 none ws (rr 5 4 16 122) #[(.ref k), va, (.ref m), (.ref b)] (Q_segX Z k va m b cs zc hE n0) := by
  rcases P0_ with rfl | ⟨a, t, rfl, S⟩
  · exact rm_segQ la Z a0 hw ws k m b hE n0 O
  · exact rm_segP la Z a0 hw ws k a m b t cs zc hE n0 O S D0_ hne h47 h33 hzc
theorem dj42_0 : decode jc42 0 = .ok (.aload_n 0, 1) := by decide +kernel
theorem dj42_1 : decode jc42 1 = .ok (.invokespecial 1, 3) := by decide +kernel
theorem dj42_4 : decode jc42 4 = .ok (.aload_n 2, 1) := by decide +kernel
theorem dj42_5 : decode jc42 5 = .ok (.ldc 7, 2) := by decide +kernel
theorem dj42_7 : decode jc42 7 = .ok (.invokestatic 9, 3) := by decide +kernel
theorem dj42_10 : decode jc42 10 = .ok (.pop, 1) := by decide +kernel
theorem dj42_11 : decode jc42 11 = .ok (.aload_n 3, 1) := by decide +kernel
theorem dj42_12 : decode jc42 12 = .ok (.ldc 15, 2) := by decide +kernel
theorem dj42_14 : decode jc42 14 = .ok (.invokestatic 9, 3) := by decide +kernel
theorem dj42_17 : decode jc42 17 = .ok (.pop, 1) := by decide +kernel
theorem dj42_18 : decode jc42 18 = .ok (.ldc 17, 2) := by decide +kernel
theorem dj42_20 : decode jc42 20 = .ok (.aload_n 1, 1) := by decide +kernel
theorem dj42_21 : decode jc42 21 = .ok (.aload_n 2, 1) := by decide +kernel
theorem dj42_22 : decode jc42 22 = .ok (.aload_n 3, 1) := by decide +kernel
theorem dj42_23 : decode jc42 23 = .ok (.invokestatic 19, 3) := by decide +kernel
theorem dj42_26 : decode jc42 26 = .ok (.ldc 25, 2) := by decide +kernel
theorem dj42_28 : decode jc42 28 = .ok (.aload_n 2, 1) := by decide +kernel
theorem dj42_29 : decode jc42 29 = .ok (.aload_n 2, 1) := by decide +kernel
theorem dj42_30 : decode jc42 30 = .ok (.aload_n 3, 1) := by decide +kernel
theorem dj42_31 : decode jc42 31 = .ok (.invokestatic 19, 3) := by decide +kernel
theorem dj42_34 : decode jc42 34 = .ok (.ldc 27, 2) := by decide +kernel
theorem dj42_36 : decode jc42 36 = .ok (.aload_n 3, 1) := by decide +kernel
theorem dj42_37 : decode jc42 37 = .ok (.aload_n 2, 1) := by decide +kernel
theorem dj42_38 : decode jc42 38 = .ok (.aload_n 3, 1) := by decide +kernel
theorem dj42_39 : decode jc42 39 = .ok (.invokestatic 19, 3) := by decide +kernel
theorem dj42_42 : decode jc42 42 = .ok (.ldc 29, 2) := by decide +kernel
theorem dj42_44 : decode jc42 44 = .ok (.aload 4, 2) := by decide +kernel
theorem dj42_46 : decode jc42 46 = .ok (.aload_n 2, 1) := by decide +kernel
theorem dj42_47 : decode jc42 47 = .ok (.aload_n 3, 1) := by decide +kernel
theorem dj42_48 : decode jc42 48 = .ok (.invokestatic 19, 3) := by decide +kernel
theorem dj42_51 : decode jc42 51 = .ok (.aload_n 0, 1) := by decide +kernel
theorem dj42_52 : decode jc42 52 = .ok (.aload_n 1, 1) := by decide +kernel
theorem dj42_53 : decode jc42 53 = .ok (.putfield 31, 3) := by decide +kernel
theorem dj42_56 : decode jc42 56 = .ok (.aload_n 0, 1) := by decide +kernel
theorem dj42_57 : decode jc42 57 = .ok (.aload_n 2, 1) := by decide +kernel
theorem dj42_58 : decode jc42 58 = .ok (.putfield 35, 3) := by decide +kernel
theorem dj42_61 : decode jc42 61 = .ok (.aload_n 0, 1) := by decide +kernel
theorem dj42_62 : decode jc42 62 = .ok (.aload_n 3, 1) := by decide +kernel
theorem dj42_63 : decode jc42 63 = .ok (.putfield 37, 3) := by decide +kernel
theorem dj42_66 : decode jc42 66 = .ok (.aload_n 0, 1) := by decide +kernel
theorem dj42_67 : decode jc42 67 = .ok (.aload 4, 2) := by decide +kernel
theorem dj42_69 : decode jc42 69 = .ok (.putfield 39, 3) := by decide +kernel
theorem dj42_72 : decode jc42 72 = .ok (.return_, 1) := by decide +kernel
theorem pd_27 : parseMethodDescriptor "()V" = some ⟨[], none⟩ := by decide +kernel
theorem pd_28 : parseMethodDescriptor "(Ljava/lang/Object;Ljava/lang/String;)Ljava/lang/Object;" = some ⟨[(.object "java/lang/Object"), (.object "java/lang/String")], some (.object "java/lang/Object")⟩ := by decide +kernel
theorem pd_29 : parseMethodDescriptor "(Ljava/lang/String;Ljava/lang/String;Ljava/lang/String;Ljava/lang/String;)V" = some ⟨[(.object "java/lang/String"), (.object "java/lang/String"), (.object "java/lang/String"), (.object "java/lang/String")], none⟩ := by decide +kernel
theorem ef_ginX (mi : MethodId) (g : Addr) (va : Value) (m : Addr) (b : Addr) (vw : Value) (hx_va : va.isRef = true) (hx_vw : vw.isRef = true) : entryFrame mi #[(.ref g), va, (.ref m), (.ref b), vw] 5 = mkF mi 0 #[.val (.ref g), .val va, .val (.ref m), .val (.ref b), .val vw] [] := by rcases ref_cases hx_va with rfl | ⟨_, rfl⟩ <;> rcases ref_cases hx_vw with rfl | ⟨_, rfl⟩ <;> (first | (simp [entryFrame, mkF, argsToLocals, Value.category]; done) | rfl)
def Q_ginX (Z : State) (g : Addr) (va : Value) (ca : List Int32) (m tm : Addr) (cm : List Int32) (b tb : Addr) (cb : List Int32) (vw : Value) (cv : List Int32) (zc : Int32) (hE : Heap) (n0 : Nat) (vv : Option Value) (hh : Heap) (LL : List Loc) : Prop := (vv = none) ∧ (Fr n0 LL) ∧ (Keep hE hh [g]) ∧ (Exa Z hh g c0_) ∧ (Fld Z hh g c0_ c28_ c6_ (.ref m)) ∧ (Fld Z hh g c0_ "beanName" c6_ (.ref b)) ∧ (Fld Z hh g c0_ "viewName" c6_ vw)
theorem rm_ginX (hw : HW a0 Z) (ws : List Cond) (g : Addr) (va : Value) (ca : List Int32) (m tm : Addr) (cm : List Int32) (b tb : Addr) (cb : List Int32) (vw : Value) (cv : List Int32) (zc : Int32) (hE : Heap) (n0 : Nat) (O : Old Z n0 hE) (P0_ : Exa Z hE g c0_) (P1_ : Fld Z hE g c0_ "appName" c6_ .null) (P2_ : Fld Z hE g c0_ c28_ c6_ .null) (P3_ : Fld Z hE g c0_ "beanName" c6_ .null) (P4_ : Fld Z hE g c0_ "viewName" c6_ .null) (P5_ : OStr Z hE va ca) (P6_ : LStr Z hE m tm cm) (P7_ : LStr Z hE b tb cb) (P8_ : OStr Z hE vw cv) (D0_ : Sta Z Z.heap c1_ c5_ "Z" (.int zc)) (g_g : n0 ≤ g) (ne_m_g : m ≠ g) (ne_tm_g : tm ≠ g) (ne_b_g : b ≠ g) (ne_tb_g : tb ≠ g) (hva : va.isRef = true) (hne_va : ca.length ≠ 0) (h47_va : ∀ c ∈ ca, ¬ ((c.toInt8.toInt32) = (47 : Int32))) (h33_va : ∀ c ∈ ca, ¬ ((c.toInt8.toInt32) = (33 : Int32))) (hne_m : cm.length ≠ 0) (h47_m : ∀ c ∈ cm, ¬ ((c.toInt8.toInt32) = (47 : Int32))) (h33_m : ∀ c ∈ cm, ¬ ((c.toInt8.toInt32) = (33 : Int32))) (hne_b : cb.length ≠ 0) (h47_b : ∀ c ∈ cb, ¬ ((c.toInt8.toInt32) = (47 : Int32))) (h33_b : ∀ c ∈ cb, ¬ ((c.toInt8.toInt32) = (33 : Int32))) (hvw : vw.isRef = true) (hne_vw : cv.length ≠ 0) (h47_vw : ∀ c ∈ cv, ¬ ((c.toInt8.toInt32) = (47 : Int32))) (h33_vw : ∀ c ∈ cv, ¬ ((c.toInt8.toInt32) = (33 : Int32))) (hzc : ¬ (zc = (0 : Int32))) :
    MW la Z hE mn45 jc42 5 none ws (rr 6 24 324 137) #[(.ref g), va, (.ref m), (.ref b), vw] (Q_ginX Z g va ca m tm cm b tb cb vw cv zc hE n0) := by
  refine MetFree.of_bodySF (plainFor_of_name pn_com_example_beanloft_beanloft_naming_GlobalName) hisR ?_
  intro pg ev sb mi gs below me cd s₁ Bd hml0 hPt hKt
  obtain ⟨rfl, hZ, hh, hH⟩ := hPt
  have hx := Bd.exec
  have hby := Bd.bytes
  have hml : cd.maxLocals = 5 := hml0
  have hown : sb.vm.findClass c0_ = some mi.cls := findClass_of_methodNamed Bd.named
  have hnm := (name_of_methodNamed Bd.named Bd.method).1
  have X0 : Stand pg la ev (rr 6 24 324 137) (sb.setVm sb.vm) mi #[(.ref g), va, (.ref m), (.ref b), vw] below me cd s₁ [] 0 0 := Stand.of_body Bd
  have eE : s₁.heap = hE := by rw [← hh, Bd.state]; rfl
  have N0 := Fr.nil n0
  have pre0 : ∀ tt, SP pg ev below (s₁.setTop (mkF mi 0 #[.val (.ref g), .val va, .val (.ref m), .val (.ref b), .val vw] [])) tt → SP pg ev below (s₁.setTop (entryFrame mi #[(.ref g), va, (.ref m), (.ref b), vw] 5)) tt := fun tt kk => castTop (ef_ginX mi g va m b vw hva hvw) kk
  have hS : sb.Since sb.vm 0 := (State.WarmedH.refl sb).since 0
  have hk : 0 ≤ hE.size := Nat.zero_le _
  have hEL := own_EW hw
  have C0 := CHr.refl hH
  obtain ⟨v101, _, ⟨T101, L101, k101, n101⟩, -, X101, ⟨Lc101, hQ101, l101, y101, z101⟩, st101⟩ := X0.specialBack hx (y := mn35) rfl hown (mvT hZ (wd36 hw)) (mvT hZ (wd37 hw)) (mvT hZ (wd40 hw)) (by decide) (backOf (W := 0) (rm_rec la Z a0 hw [] g hE n0 O) hZ (wd40 hw) (wd39 hw) (by decide) (by decide)) (g := (mkF mi 1 #[.val (.ref g), .val va, .val (.ref m), .val (.ref b), .val vw] [(.ref g)])) rfl (by rw [hml]; rfl) (Steps.refl _) (a := g) (argsL := []) (rest := []) (lenOf pd_27 rfl) rfl (Nat.le_of_ble_eq_true rfl) (hb hby dj42_1) (fun _ _ => ⟨rfl, eE, (by decide : 0 + 0 ≤ _), (by decide : 0 + 0 ≤ _)⟩)
  dsimp only [Pt.U, Pt.locs, Pt.cells, Pt.slots] at X101 l101 y101 z101 st101 hQ101
  subst l101 y101 z101
  obtain ⟨rfl, Nq101, ek101⟩ := hQ101
  have N101 := Fr.app N0 Nq101
  obtain ⟨a102, T102, h102, k102, X102, e102, E102, hs103, hk104, hZ, hown, c102, lt105, st102⟩ := ldcOH (s := sb.setVm sb.vm) X101 hx hZ hown (wd42 hw) (own_wS hw) ek101 ((State.WarmedH.refl (sb.setVm sb.vm)).since 0) (Nat.zero_le _) hEL C0.1 (g := (mkF mi 5 #[.val (.ref g), .val va, .val (.ref m), .val (.ref b), .val vw] [(.ref m)])) rfl (hb hby dj42_5) (n := 40) (by decide) (by decide) (by decide) (by decide)
  have X102 := own_restand X102
  have hS := hS.trans (⟨hs103.1, hs103.2.mono hk104⟩ : (sb.setVm sb.vm).Since T102.vm h102.size) (Nat.le_trans hk E102.1)
  have hk : h102.size ≤ h102.size := Nat.le_refl _
  have C106 := CHr.trans C0 c102
  have O107 : Old Z n0 h102 := (O.ext E102)
  obtain ⟨v108, _, ⟨T108, L108, k108, n108⟩, -, X108, ⟨Lc108, hQ108, l108, y108, z108⟩, st108⟩ := Jvm.LawKit.callS X102 hx (y := mn36) hown (mvT hZ (wd45 hw)) (mvT hZ (wd46 hw)) (mvT hZ (wd47 hw)) (mvT hZ (wd48 hw)) (by decide) (backOf (W := 0) (rm_rnn2 la Z a0 hw [] m a102 h102 n0 O107) hZ (wd48 hw) (wd47 hw) (by decide) (by decide)) (g := (mkF mi 7 #[.val (.ref g), .val va, .val (.ref m), .val (.ref b), .val vw] [(.ref a102), (.ref m)])) rfl (by rw [hml]; rfl) (argsL := [(.ref m), (.ref a102)]) (rest := []) (lenOf pd_28 rfl) rfl (Nat.le_of_ble_eq_true rfl) (hb hby dj42_7) (fun _ _ => ⟨rfl, e102, (by decide : 2 + 0 ≤ _), (by decide : 44 + 0 ≤ _)⟩)
  dsimp only [Pt.U, Pt.locs, Pt.cells, Pt.slots] at X108 l108 y108 z108 st108 hQ108
  subst l108 y108 z108
  obtain ⟨rfl, Nq108, ek108⟩ := hQ108
  have N108 := Fr.app N101 Nq108
  obtain ⟨a109, T109, h109, k109, X109, e109, E109, hs110, hk111, hZ, hown, c109, lt112, st109⟩ := ldcOH (s := sb.setVm T102.vm) X108 hx hZ hown (wd49 hw) (own_wS hw) ek108 ((State.WarmedH.refl (sb.setVm T102.vm)).since 0) (Nat.zero_le _) hEL C106.1 (g := (mkF mi 12 #[.val (.ref g), .val va, .val (.ref m), .val (.ref b), .val vw] [(.ref b)])) rfl (hb hby dj42_12) (n := 32) (by decide) (by decide) (by decide) (by decide)
  have X109 := own_restand X109
  have hS := hS.trans (⟨hs110.1, hs110.2.mono hk111⟩ : (sb.setVm T102.vm).Since T109.vm h109.size) (Nat.le_trans hk E109.1)
  have hk : h109.size ≤ h109.size := Nat.le_refl _
  have lt113 := Lit.stays (s := sb) lt105 hs110.1
  have C114 := CHr.trans C106 c109
  have O115 : Old Z n0 h109 := (O107.ext E109)
  obtain ⟨v116, _, ⟨T116, L116, k116, n116⟩, -, X116, ⟨Lc116, hQ116, l116, y116, z116⟩, st116⟩ := Jvm.LawKit.callS X109 hx (y := mn36) hown (mvT hZ (wd45 hw)) (mvT hZ (wd46 hw)) (mvT hZ (wd47 hw)) (mvT hZ (wd48 hw)) (by decide) (backOf (W := 0) (rm_rnn2 la Z a0 hw [] b a109 h109 n0 O115) hZ (wd48 hw) (wd47 hw) (by decide) (by decide)) (g := (mkF mi 14 #[.val (.ref g), .val va, .val (.ref m), .val (.ref b), .val vw] [(.ref a109), (.ref b)])) rfl (by rw [hml]; rfl) (argsL := [(.ref b), (.ref a109)]) (rest := []) (lenOf pd_28 rfl) rfl (Nat.le_of_ble_eq_true rfl) (hb hby dj42_14) (fun _ _ => ⟨rfl, e109, (by decide : 4 + 0 ≤ _), (by decide : 80 + 0 ≤ _)⟩)
  dsimp only [Pt.U, Pt.locs, Pt.cells, Pt.slots] at X116 l116 y116 z116 st116 hQ116
  subst l116 y116 z116
  obtain ⟨rfl, Nq116, ek116⟩ := hQ116
  have N116 := Fr.app N108 Nq116
  obtain ⟨a117, T117, h117, k117, X117, e117, E117, hs118, hk119, hZ, hown, c117, lt120, st117⟩ := ldcOH (s := sb.setVm T109.vm) X116 hx hZ hown (wd50 hw) (own_wS hw) ek116 ((State.WarmedH.refl (sb.setVm T109.vm)).since 0) (Nat.zero_le _) hEL C114.1 (g := (mkF mi 18 #[.val (.ref g), .val va, .val (.ref m), .val (.ref b), .val vw] [])) rfl (hb hby dj42_18) (n := 64) (by decide) (by decide) (by decide) (by decide)
  have X117 := own_restand X117
  have hS := hS.trans (⟨hs118.1, hs118.2.mono hk119⟩ : (sb.setVm T109.vm).Since T117.vm h117.size) (Nat.le_trans hk E117.1)
  have hk : h117.size ≤ h117.size := Nat.le_refl _
  have lt121 := Lit.stays (s := sb) lt113 hs118.1
  have lt122 := Lit.stays (s := sb) lt112 hs118.1
  have C123 := CHr.trans C114 c117
  have O124 : Old Z n0 h117 := (O115.ext E117)
  have f125 : OStr Z h117 va ca := P5_.keep ((((Keep.refl hE []).ext E102).ext E109).ext E117)
  obtain ⟨v126, _, ⟨T126, L126, k126, n126⟩, -, X126, s126, gr126, ⟨Lc126, hQ126, l126, y126, z126, c126⟩, st126⟩ := callSS X117 hx (y := mn44) hown (mvT hZ (wd51 hw)) (mvT hZ (wd52 hw)) (mvT hZ (wd32 hw)) (mvT hZ (wd53 hw)) (by decide) (backOfSH (W := 0) (rm_segX la Z a0 hw [] a117 va m b ca zc h117 n0 O124 f125 D0_ (hne_va : ca.length ≠ 0) (h47_va : ∀ c ∈ ca, ¬ ((c.toInt8.toInt32) = (47 : Int32))) (h33_va : ∀ c ∈ ca, ¬ ((c.toInt8.toInt32) = (33 : Int32))) (hzc : ¬ (zc = (0 : Int32)))) hZ (wd53 hw) (wd32 hw) (by decide) (by decide) hEL C123.1) (g := (mkF mi 23 #[.val (.ref g), .val va, .val (.ref m), .val (.ref b), .val vw] [(.ref b), (.ref m), va, (.ref a117)])) rfl (by rw [hml]; rfl) (argsL := [(.ref a117), va, (.ref m), (.ref b)]) (rest := []) (lenOf pd_29 rfl) rfl (Nat.le_of_ble_eq_true rfl) (hb hby dj42_23) (fun _ _ => ⟨rfl, e117, (by decide : 6 + 4 ≤ _), (by decide : 148 + 16 ≤ _)⟩)
  dsimp only [Pt.U, Pt.locs, Pt.cells, Pt.slots] at X126 s126 gr126 l126 y126 z126 c126 st126 hQ126
  subst l126 y126 z126
  have lt127 := Lit.stays (s := sb) lt121 s126.1
  have lt128 := Lit.stays (s := sb) lt122 s126.1
  have lt129 := Lit.stays (s := sb) lt120 s126.1
  obtain ⟨X126, hS, hZ, hown⟩ := rebS hS (show _ ≤ T117.heap.size by rw [e117]; exact hk) X126 s126 gr126 hZ hown
  have hk : T126.heap.size ≤ T126.heap.size := Nat.le_refl _
  obtain ⟨rfl, Nq126, Kq126⟩ := hQ126
  have N126 := Fr.app N116 Nq126
  have C130 := CHr.trans C123 c126
  obtain ⟨a131, T131, h131, k131, X131, e131, E131, hs132, hk133, hZ, hown, c131, lt134, st131⟩ := ldcOH (s := sb.setVm T126.vm) X126 hx hZ hown (wd54 hw) (own_wS hw) rfl ((State.WarmedH.refl (sb.setVm T126.vm)).since 0) (Nat.zero_le _) hEL C130.1 (g := (mkF mi 26 #[.val (.ref g), .val va, .val (.ref m), .val (.ref b), .val vw] [])) rfl (hb hby dj42_26) (n := 44) (by decide) (by decide) (by decide) (by decide)
  have X131 := own_restand X131
  have hS := hS.trans (⟨hs132.1, hs132.2.mono hk133⟩ : (sb.setVm T126.vm).Since T131.vm h131.size) (Nat.le_trans hk E131.1)
  have hk : h131.size ≤ h131.size := Nat.le_refl _
  have lt135 := Lit.stays (s := sb) lt127 hs132.1
  have lt136 := Lit.stays (s := sb) lt128 hs132.1
  have lt137 := Lit.stays (s := sb) lt129 hs132.1
  have C138 := CHr.trans C130 c131
  have O139 : Old Z n0 h131 := ((O124.keep Kq126 all0).ext E131)
  have f140 : LStr Z h131 m tm cm := (((((P6_.ext E102).ext E109).ext E117).keep Kq126 nin0 nin0).ext E131)
  obtain ⟨v141, _, ⟨T141, L141, k141, n141⟩, -, X141, s141, gr141, ⟨Lc141, hQ141, l141, y141, z141, c141, ly0_141, lu0_141, ly1_141, lu1_141, ll0_141, ls0_141, ll1_141, ls1_141⟩, st141⟩ := callSS X131 hx (y := mn44) hown (mvT hZ (wd51 hw)) (mvT hZ (wd52 hw)) (mvT hZ (wd32 hw)) (mvT hZ (wd53 hw)) (by decide) (own_backSL (W := 0) (LP := fun vm => True) (LQ := fun vm h => ∃ ly0 lu0 ly1 lu1 : Addr, Lit (Z.setVm vm) c0_ 105 ly0 ∧ LStr Z h ly0 lu0 ([(47 : Int32)] : List Int32) ∧ Lit (Z.setVm vm) c0_ 120 ly1 ∧ LStr Z h ly1 lu1 ([(33 : Int32)] : List Int32)) (fun hW => trivial) (rm_seg la Z a0 hw [] a131 m m b tm cm zc h131 n0 O139 f140 D0_ (hne_m : cm.length ≠ 0) (h47_m : ∀ c ∈ cm, ¬ ((c.toInt8.toInt32) = (47 : Int32))) (h33_m : ∀ c ∈ cm, ¬ ((c.toInt8.toInt32) = (33 : Int32))) (hzc : ¬ (zc = (0 : Int32)))) hZ (wd53 hw) (wd32 hw) (by decide) (by decide) hEL C138.1) (g := (mkF mi 31 #[.val (.ref g), .val va, .val (.ref m), .val (.ref b), .val vw] [(.ref b), (.ref m), (.ref m), (.ref a131)])) rfl (by rw [hml]; rfl) (argsL := [(.ref a131), (.ref m), (.ref m), (.ref b)]) (rest := []) (lenOf pd_29 rfl) rfl (Nat.le_of_ble_eq_true rfl) (hb hby dj42_31) (fun _ _ => ⟨rfl, e131, (by decide : 12 + 4 ≤ _), (by decide : 212 + 16 ≤ _)⟩)
  dsimp only [Pt.U, Pt.locs, Pt.cells, Pt.slots] at X141 s141 gr141 l141 y141 z141 c141 st141 hQ141
  subst l141 y141 z141
  dsimp only [Pt.U] at ll0_141 ls0_141 ll1_141 ls1_141
  have lt142 := Lit.stays (s := sb) lt135 s141.1
  have lt143 := Lit.stays (s := sb) lt136 s141.1
  have lt144 := Lit.stays (s := sb) lt137 s141.1
  have lt145 := Lit.stays (s := sb) lt134 s141.1
  obtain ⟨X141, hS, hZ, hown⟩ := rebS hS (show _ ≤ T131.heap.size by rw [e131]; exact hk) X141 s141 gr141 hZ hown
  have hk : T141.heap.size ≤ T141.heap.size := Nat.le_refl _
  obtain ⟨rfl, Nq141, Kq141⟩ := hQ141
  have N141 := Fr.app N126 Nq141
  have C146 := CHr.trans C138 c141
  obtain ⟨a147, T147, h147, k147, X147, e147, E147, hs148, hk149, hZ, hown, c147, lt150, st147⟩ := ldcOH (s := sb.setVm T141.vm) X141 hx hZ hown (wd97 hw) (own_wS hw) rfl ((State.WarmedH.refl (sb.setVm T141.vm)).since 0) (Nat.zero_le _) hEL C146.1 (g := (mkF mi 34 #[.val (.ref g), .val va, .val (.ref m), .val (.ref b), .val vw] [])) rfl (hb hby dj42_34) (n := 36) (by decide) (by decide) (by decide) (by decide)
  have X147 := own_restand X147
  have hS := hS.trans (⟨hs148.1, hs148.2.mono hk149⟩ : (sb.setVm T141.vm).Since T147.vm h147.size) (Nat.le_trans hk E147.1)
  have hk : h147.size ≤ h147.size := Nat.le_refl _
  have lt151 := Lit.stays (s := sb) lt142 hs148.1
  have lt152 := Lit.stays (s := sb) lt143 hs148.1
  have lt153 := Lit.stays (s := sb) lt144 hs148.1
  have lt154 := Lit.stays (s := sb) lt145 hs148.1
  have lt155 := Lit.stays (s := sb) ll0_141 hs148.1
  have lt156 := Lit.stays (s := sb) ll1_141 hs148.1
  have C157 := CHr.trans C146 c147
  have O158 : Old Z n0 h147 := ((O139.keep Kq141 all0).ext E147)
  have f159 : LStr Z h147 b tb cb := (((((((P7_.ext E102).ext E109).ext E117).keep Kq126 nin0 nin0).ext E131).keep Kq141 nin0 nin0).ext E147)
  have f160 : LStr Z h147 ly0_141 lu0_141 ([(47 : Int32)] : List Int32) := (ls0_141.ext E147)
  have f161 : LStr Z h147 ly1_141 lu1_141 ([(33 : Int32)] : List Int32) := (ls1_141.ext E147)
  obtain ⟨v162, _, ⟨T162, L162, k162, n162⟩, -, X162, s162, gr162, ⟨Lc162, hQ162, l162, y162, z162, c162, -⟩, st162⟩ := callSS X147 hx (y := mn44) hown (mvT hZ (wd51 hw)) (mvT hZ (wd52 hw)) (mvT hZ (wd32 hw)) (mvT hZ (wd53 hw)) (by decide) (own_backSL (W := 0) (LP := fun vm => Lit (Z.setVm vm) c0_ 105 ly0_141 ∧ Lit (Z.setVm vm) c0_ 120 ly1_141) (LQ := fun vm h => True) (fun hW => ⟨Lit.stays (s := sb) lt155 hW, Lit.stays (s := sb) lt156 hW⟩) (rm_segL la Z a0 hw [] a147 b m b tb ly0_141 lu0_141 ly1_141 lu1_141 cb zc h147 n0 O158 f159 f160 f161 D0_ (hne_b : cb.length ≠ 0) (h47_b : ∀ c ∈ cb, ¬ ((c.toInt8.toInt32) = (47 : Int32))) (h33_b : ∀ c ∈ cb, ¬ ((c.toInt8.toInt32) = (33 : Int32))) (hzc : ¬ (zc = (0 : Int32)))) hZ (wd53 hw) (wd32 hw) (by decide) (by decide) hEL C157.1) (g := (mkF mi 39 #[.val (.ref g), .val va, .val (.ref m), .val (.ref b), .val vw] [(.ref b), (.ref m), (.ref b), (.ref a147)])) rfl (by rw [hml]; rfl) (argsL := [(.ref a147), (.ref b), (.ref m), (.ref b)]) (rest := []) (lenOf pd_29 rfl) rfl (Nat.le_of_ble_eq_true rfl) (hb hby dj42_39) (fun _ _ => ⟨rfl, e147, (by decide : 18 + 0 ≤ _), (by decide : 268 + 0 ≤ _)⟩)
  dsimp only [Pt.U, Pt.locs, Pt.cells, Pt.slots] at X162 s162 gr162 l162 y162 z162 c162 st162 hQ162
  subst l162 y162 z162
  have lt163 := Lit.stays (s := sb) lt151 s162.1
  have lt164 := Lit.stays (s := sb) lt152 s162.1
  have lt165 := Lit.stays (s := sb) lt153 s162.1
  have lt166 := Lit.stays (s := sb) lt154 s162.1
  have lt167 := Lit.stays (s := sb) lt155 s162.1
  have lt168 := Lit.stays (s := sb) lt156 s162.1
  have lt169 := Lit.stays (s := sb) lt150 s162.1
  obtain ⟨X162, hS, hZ, hown⟩ := rebS hS (show _ ≤ T147.heap.size by rw [e147]; exact hk) X162 s162 gr162 hZ hown
  have hk : T162.heap.size ≤ T162.heap.size := Nat.le_refl _
  obtain ⟨rfl, Nq162, Kq162⟩ := hQ162
  have N162 := Fr.app N141 Nq162
  have C170 := CHr.trans C157 c162
  obtain ⟨a171, T171, h171, k171, X171, e171, E171, hs172, hk173, hZ, hown, c171, lt174, st171⟩ := ldcOH (s := sb.setVm T162.vm) X162 hx hZ hown (wd98 hw) (own_wS hw) rfl ((State.WarmedH.refl (sb.setVm T162.vm)).since 0) (Nat.zero_le _) hEL C170.1 (g := (mkF mi 42 #[.val (.ref g), .val va, .val (.ref m), .val (.ref b), .val vw] [])) rfl (hb hby dj42_42) (n := 36) (by decide) (by decide) (by decide) (by decide)
  have X171 := own_restand X171
  have hS := hS.trans (⟨hs172.1, hs172.2.mono hk173⟩ : (sb.setVm T162.vm).Since T171.vm h171.size) (Nat.le_trans hk E171.1)
  have hk : h171.size ≤ h171.size := Nat.le_refl _
  have lt175 := Lit.stays (s := sb) lt163 hs172.1
  have lt176 := Lit.stays (s := sb) lt164 hs172.1
  have lt177 := Lit.stays (s := sb) lt165 hs172.1
  have lt178 := Lit.stays (s := sb) lt166 hs172.1
  have lt179 := Lit.stays (s := sb) lt167 hs172.1
  have lt180 := Lit.stays (s := sb) lt168 hs172.1
  have lt181 := Lit.stays (s := sb) lt169 hs172.1
  have C182 := CHr.trans C170 c171
  have O183 : Old Z n0 h171 := ((O158.keep Kq162 all0).ext E171)
  have f184 : OStr Z h171 vw cv := P8_.keep ((((((((((Keep.refl hE []).ext E102).ext E109).ext E117).trans Kq126 all0).ext E131).trans Kq141 all0).ext E147).trans Kq162 all0).ext E171)
  obtain ⟨v185, _, ⟨T185, L185, k185, n185⟩, -, X185, s185, gr185, ⟨Lc185, hQ185, l185, y185, z185, c185⟩, st185⟩ := callSS X171 hx (y := mn44) hown (mvT hZ (wd51 hw)) (mvT hZ (wd52 hw)) (mvT hZ (wd32 hw)) (mvT hZ (wd53 hw)) (by decide) (backOfSH (W := 0) (rm_segX la Z a0 hw [] a171 vw m b cv zc h171 n0 O183 f184 D0_ (hne_vw : cv.length ≠ 0) (h47_vw : ∀ c ∈ cv, ¬ ((c.toInt8.toInt32) = (47 : Int32))) (h33_vw : ∀ c ∈ cv, ¬ ((c.toInt8.toInt32) = (33 : Int32))) (hzc : ¬ (zc = (0 : Int32)))) hZ (wd53 hw) (wd32 hw) (by decide) (by decide) hEL C182.1) (g := (mkF mi 48 #[.val (.ref g), .val va, .val (.ref m), .val (.ref b), .val vw] [(.ref b), (.ref m), vw, (.ref a171)])) rfl (by rw [hml]; rfl) (argsL := [(.ref a171), vw, (.ref m), (.ref b)]) (rest := []) (lenOf pd_29 rfl) rfl (Nat.le_of_ble_eq_true rfl) (hb hby dj42_48) (fun _ _ => ⟨rfl, e171, (by decide : 20 + 4 ≤ _), (by decide : 308 + 16 ≤ _)⟩)
  dsimp only [Pt.U, Pt.locs, Pt.cells, Pt.slots] at X185 s185 gr185 l185 y185 z185 c185 st185 hQ185
  subst l185 y185 z185
  have lt186 := Lit.stays (s := sb) lt175 s185.1
  have lt187 := Lit.stays (s := sb) lt176 s185.1
  have lt188 := Lit.stays (s := sb) lt177 s185.1
  have lt189 := Lit.stays (s := sb) lt178 s185.1
  have lt190 := Lit.stays (s := sb) lt179 s185.1
  have lt191 := Lit.stays (s := sb) lt180 s185.1
  have lt192 := Lit.stays (s := sb) lt181 s185.1
  have lt193 := Lit.stays (s := sb) lt174 s185.1
  obtain ⟨X185, hS, hZ, hown⟩ := rebS hS (show _ ≤ T171.heap.size by rw [e171]; exact hk) X185 s185 gr185 hZ hown
  have hk : T185.heap.size ≤ T185.heap.size := Nat.le_refl _
  obtain ⟨rfl, Nq185, Kq185⟩ := hQ185
  have N185 := Fr.app N162 Nq185
  have C194 := CHr.trans C182 c185
  have f195 : Exa Z T185.heap g c0_ := ((((((((((P0_.ext E102).ext E109).ext E117).keep Kq126).ext E131).keep Kq141).ext E147).keep Kq162).ext E171).keep Kq185)
  have f196 : Fld Z T185.heap g c0_ "appName" c6_ .null := ((((((((((P1_.ext E102).ext E109).ext E117).keep Kq126 nin0).ext E131).keep Kq141 nin0).ext E147).keep Kq162 nin0).ext E171).keep Kq185 nin0)
  obtain ⟨T197, h197, X197, e197, W197, st197⟩ := putF X185 hx hZ hown (host := "") (Or.inl (wd99 hw)) Via.refl rfl f196 f195 (Or.inr ⟨(wd100 hw), rfl, hnm⟩) (wd31 hw) (ty := (.object c1_)) (by decide) (own_narX hva) (own_fitX hva) (g := (mkF mi 53 #[.val (.ref g), .val va, .val (.ref m), .val (.ref b), .val vw] [va, (.ref g)])) rfl rfl (hb hby dj42_53)
  have N197 := Fr.snoc X197 N185 g_g
  have c198 := CHr.keep (Keep.of_wr W197) (sfS (Safe.exa hZ.alike f195 (by decide) (by decide)) sf0) C194.1
  have C199 := CHr.trans C194 c198
  have f200 : Fld Z h197 g c0_ "appName" c6_ va := f196.same W197
  have f201 : Exa Z h197 g c0_ := (f195.keep (Keep.of_wr W197))
  have f202 : Fld Z h197 g c0_ c28_ c6_ .null := (((((((((((P2_.ext E102).ext E109).ext E117).keep Kq126 nin0).ext E131).keep Kq141 nin0).ext E147).keep Kq162 nin0).ext E171).keep Kq185 nin0).other W197 (Or.inr (slot_ne (Or.inr (wd102 hw)) (Or.inr (wd100 hw)) (by decide) (t := (.object c1_)) (t' := (.object c1_)) (by decide) (by decide))))
  obtain ⟨T203, h203, X203, e203, W203, st203⟩ := putF X197 hx hZ hown (host := "") (Or.inl (wd101 hw)) Via.refl e197 f202 f201 (Or.inr ⟨(wd102 hw), rfl, hnm⟩) (wd31 hw) (ty := (.object c1_)) (by decide) rfl rfl (g := (mkF mi 58 #[.val (.ref g), .val va, .val (.ref m), .val (.ref b), .val vw] [(.ref m), (.ref g)])) rfl rfl (hb hby dj42_58)
  have N203 := Fr.snoc X203 N197 g_g
  have c204 := CHr.keep (Keep.of_wr W203) (sfS (Safe.exa hZ.alike f201 (by decide) (by decide)) sf0) C199.1
  have C205 := CHr.trans C199 c204
  have f206 : Fld Z h203 g c0_ c28_ c6_ (.ref m) := f202.same W203
  have f207 : Exa Z h203 g c0_ := (f201.keep (Keep.of_wr W203))
  have f208 : Fld Z h203 g c0_ "beanName" c6_ .null := ((((((((((((P3_.ext E102).ext E109).ext E117).keep Kq126 nin0).ext E131).keep Kq141 nin0).ext E147).keep Kq162 nin0).ext E171).keep Kq185 nin0).other W197 (Or.inr (slot_ne (Or.inr (wd104 hw)) (Or.inr (wd100 hw)) (by decide) (t := (.object c1_)) (t' := (.object c1_)) (by decide) (by decide)))).other W203 (Or.inr (slot_ne (Or.inr (wd104 hw)) (Or.inr (wd102 hw)) (by decide) (t := (.object c1_)) (t' := (.object c1_)) (by decide) (by decide))))
  obtain ⟨T209, h209, X209, e209, W209, st209⟩ := putF X203 hx hZ hown (host := "") (Or.inl (wd103 hw)) Via.refl e203 f208 f207 (Or.inr ⟨(wd104 hw), rfl, hnm⟩) (wd31 hw) (ty := (.object c1_)) (by decide) rfl rfl (g := (mkF mi 63 #[.val (.ref g), .val va, .val (.ref m), .val (.ref b), .val vw] [(.ref b), (.ref g)])) rfl rfl (hb hby dj42_63)
  have N209 := Fr.snoc X209 N203 g_g
  have c210 := CHr.keep (Keep.of_wr W209) (sfS (Safe.exa hZ.alike f207 (by decide) (by decide)) sf0) C205.1
  have C211 := CHr.trans C205 c210
  have f212 : Fld Z h209 g c0_ "beanName" c6_ (.ref b) := f208.same W209
  have f213 : Exa Z h209 g c0_ := (f207.keep (Keep.of_wr W209))
  have f214 : Fld Z h209 g c0_ "viewName" c6_ .null := (((((((((((((P4_.ext E102).ext E109).ext E117).keep Kq126 nin0).ext E131).keep Kq141 nin0).ext E147).keep Kq162 nin0).ext E171).keep Kq185 nin0).other W197 (Or.inr (slot_ne (Or.inr (wd106 hw)) (Or.inr (wd100 hw)) (by decide) (t := (.object c1_)) (t' := (.object c1_)) (by decide) (by decide)))).other W203 (Or.inr (slot_ne (Or.inr (wd106 hw)) (Or.inr (wd102 hw)) (by decide) (t := (.object c1_)) (t' := (.object c1_)) (by decide) (by decide)))).other W209 (Or.inr (slot_ne (Or.inr (wd106 hw)) (Or.inr (wd104 hw)) (by decide) (t := (.object c1_)) (t' := (.object c1_)) (by decide) (by decide))))
  obtain ⟨T215, h215, X215, e215, W215, st215⟩ := putF X209 hx hZ hown (host := "") (Or.inl (wd105 hw)) Via.refl e209 f214 f213 (Or.inr ⟨(wd106 hw), rfl, hnm⟩) (wd31 hw) (ty := (.object c1_)) (by decide) (own_narX hvw) (own_fitX hvw) (g := (mkF mi 69 #[.val (.ref g), .val va, .val (.ref m), .val (.ref b), .val vw] [vw, (.ref g)])) rfl rfl (hb hby dj42_69)
  have N215 := Fr.snoc X215 N209 g_g
  have c216 := CHr.keep (Keep.of_wr W215) (sfS (Safe.exa hZ.alike f213 (by decide) (by decide)) sf0) C211.1
  have C217 := CHr.trans C211 c216
  have f218 : Fld Z h215 g c0_ "viewName" c6_ vw := f214.same W215
  have f219 : Exa Z h215 g c0_ := (f213.keep (Keep.of_wr W215))
  have f220 : Fld Z h215 g c0_ c28_ c6_ (.ref m) := ((f206.other W209 (Or.inr (slot_ne (Or.inr (wd102 hw)) (Or.inr (wd104 hw)) (by decide) (t := (.object c1_)) (t' := (.object c1_)) (by decide) (by decide)))).other W215 (Or.inr (slot_ne (Or.inr (wd102 hw)) (Or.inr (wd106 hw)) (by decide) (t := (.object c1_)) (t' := (.object c1_)) (by decide) (by decide))))
  have f221 : Fld Z h215 g c0_ "beanName" c6_ (.ref b) := (f212.other W215 (Or.inr (slot_ne (Or.inr (wd104 hw)) (Or.inr (wd106 hw)) (by decide) (t := (.object c1_)) (t' := (.object c1_)) (by decide) (by decide))))
  obtain ⟨fs, hr, hrun, hended, hWe⟩ := X215.leaveW hS (show _ ≤ T215.heap.size by rw [e215]; exact (Nat.le_trans hk (Nat.le_trans (Nat.le_trans (Nat.le_trans (Keep.of_wr W197).1 (Keep.of_wr W203).1) (Keep.of_wr W209).1) (Keep.of_wr W215).1))) (v := none) (fun _ => rfl)
  refine ⟨_, _, pre0 _ ?_, hrun, hended, _, _, rfl, ?_, ?_, hWe.1, hWe.2.1, hWe.2.2.1, hWe.2.2.2.mono (by decide) (by decide)⟩
  · show SP pg ev below (s₁.setTop (mkF mi 0 #[.val (.ref g), .val va, .val (.ref m), .val (.ref b), .val vw] [])) _
    refine XS.aloadN X0.here hx rfl (hb hby dj42_0) rfl rfl ?_
    refine st101.trans ?_
    refine XS.aloadN X101.here hx rfl (hb hby dj42_4) rfl rfl ?_
    refine st102 _ ?_
    refine st108 _ ?_
    refine XS.pop X108.here hx rfl (hb hby dj42_10) rfl rfl ?_
    refine XS.aloadN X108.here hx rfl (hb hby dj42_11) rfl rfl ?_
    refine st109 _ ?_
    refine st116 _ ?_
    refine XS.pop X116.here hx rfl (hb hby dj42_17) rfl rfl ?_
    refine st117 _ ?_
    refine XS.aloadN X117.here hx rfl (hb hby dj42_20) rfl hva ?_
    refine XS.aloadN X117.here hx rfl (hb hby dj42_21) rfl rfl ?_
    refine XS.aloadN X117.here hx rfl (hb hby dj42_22) rfl rfl ?_
    refine st126.trans ?_
    refine st131 _ ?_
    refine XS.aloadN X131.here hx rfl (hb hby dj42_28) rfl rfl ?_
    refine XS.aloadN X131.here hx rfl (hb hby dj42_29) rfl rfl ?_
    refine XS.aloadN X131.here hx rfl (hb hby dj42_30) rfl rfl ?_
    refine st141.trans ?_
    refine st147 _ ?_
    refine XS.aloadN X147.here hx rfl (hb hby dj42_36) rfl rfl ?_
    refine XS.aloadN X147.here hx rfl (hb hby dj42_37) rfl rfl ?_
    refine XS.aloadN X147.here hx rfl (hb hby dj42_38) rfl rfl ?_
    refine st162.trans ?_
    refine st171 _ ?_
    refine XS.aload X171.here hx rfl (hb hby dj42_44) rfl hvw ?_
    refine XS.aloadN X171.here hx rfl (hb hby dj42_46) rfl rfl ?_
    refine XS.aloadN X171.here hx rfl (hb hby dj42_47) rfl rfl ?_
    refine st185.trans ?_
    refine XS.aloadN X185.here hx rfl (hb hby dj42_51) rfl rfl ?_
    refine XS.aloadN X185.here hx rfl (hb hby dj42_52) rfl hva ?_
    refine st197 _ ?_
    refine XS.aloadN X197.here hx rfl (hb hby dj42_56) rfl rfl ?_
    refine XS.aloadN X197.here hx rfl (hb hby dj42_57) rfl rfl ?_
    refine st203 _ ?_
    refine XS.aloadN X203.here hx rfl (hb hby dj42_61) rfl rfl ?_
    refine XS.aloadN X203.here hx rfl (hb hby dj42_62) rfl rfl ?_
    refine st209 _ ?_
    refine XS.aloadN X209.here hx rfl (hb hby dj42_66) rfl rfl ?_
    show SP pg ev below (T209.setTop (mkF mi 67 #[.val (.ref g), .val va, .val (.ref m), .val (.ref b), .val vw] [(.ref g)])) _
    refine XS.aload X209.here hx rfl (hb hby dj42_67) rfl hvw ?_
    refine st215 _ ?_
    show SP pg ev below (T215.setTop (mkF mi 72 #[.val (.ref g), .val va, .val (.ref m), .val (.ref b), .val vw] [])) _
    exact X215.returnOut hx Bd.returns (hb hby dj42_72) hr
  · show Q_ginX Z g va ca m tm cm b tb cb vw cv zc hE n0 _ T215.heap _
    rw [e215]
    exact ⟨rfl, N215, (((((((((((((((Keep.refl hE [g]).ext E102).ext E109).ext E117).trans Kq126 all0).ext E131).trans Kq141 all0).ext E147).trans Kq162 all0).ext E171).trans Kq185 all0).trans (Keep.of_wr W197) (allS (Or.inl (List.mem_of_getElem? (i := 0) rfl)) all0)).trans (Keep.of_wr W203) (allS (Or.inl (List.mem_of_getElem? (i := 0) rfl)) all0)).trans (Keep.of_wr W209) (allS (Or.inl (List.mem_of_getElem? (i := 0) rfl)) all0)).trans (Keep.of_wr W215) (allS (Or.inl (List.mem_of_getElem? (i := 0) rfl)) all0)), f219, f220, f221, f218⟩
  · show CHr Z ELs sb.vm sb.heap T215.vm T215.heap
    rw [hh, e215]
    exact CHr.trans C217 (CHv.at X215 hZ hEL C217.1)
def svF (v : Value) (cs : List Int32) : List Int32 := match v with | .ref _ => 33 :: cs | _ => []
theorem own_sv_len {v : Value} {cs : List Int32} (h : cs.length ≤ 2) : (svF v cs).length ≤ 3 := by cases v <;> simp [svF] <;> omega
theorem dj43_0 : decode jc43 0 = .ok (.aload_n 0, 1) := by decide +kernel
theorem dj43_1 : decode jc43 1 = .ok (.getfield 39, 3) := by decide +kernel
theorem dj43_4 : decode jc43 4 = .ok (.ifnonnull 8, 3) := by decide +kernel
theorem dj43_12 : decode jc43 12 = .ok (.new 70, 3) := by decide +kernel
theorem dj43_15 : decode jc43 15 = .ok (.dup, 1) := by decide +kernel
theorem dj43_16 : decode jc43 16 = .ok (.invokespecial 72, 3) := by decide +kernel
theorem dj43_19 : decode jc43 19 = .ok (.ldc 120, 2) := by decide +kernel
theorem dj43_21 : decode jc43 21 = .ok (.invokevirtual 75, 3) := by decide +kernel
theorem dj43_24 : decode jc43 24 = .ok (.aload_n 0, 1) := by decide +kernel
theorem dj43_25 : decode jc43 25 = .ok (.getfield 39, 3) := by decide +kernel
theorem dj43_28 : decode jc43 28 = .ok (.invokevirtual 75, 3) := by decide +kernel
theorem dj43_31 : decode jc43 31 = .ok (.invokevirtual 84, 3) := by decide +kernel
theorem dj43_34 : decode jc43 34 = .ok (.areturn, 1) := by decide +kernel
theorem pd_30 : parseMethodDescriptor "(Ljava/lang/String;)Ljava/lang/StringBuilder;" = some ⟨[(.object "java/lang/String")], some (.object "java/lang/StringBuilder")⟩ := by decide +kernel
theorem ef_vs1 (mi : MethodId) (g : Addr) : entryFrame mi #[(.ref g)] 1 = mkF mi 0 #[.val (.ref g)] [] := rfl
def Q_vs1 (Z : State) (g v tv : Addr) (cv : List Int32) (zc : Int32) (hE : Heap) (n0 : Nat) (vv : Option Value) (hh : Heap) (LL : List Loc) : Prop := ∃ x : Addr, ∃ t : Addr, (vv = some (.ref x)) ∧ (Fr n0 LL) ∧ (Keep hE hh []) ∧ (LStr Z hh x t ((([] : List Int32) ++ ([(33 : Int32)] : List Int32)) ++ cv))
theorem rm_vs1 (hw : HW a0 Z) (ws : List Cond) (g v tv : Addr) (cv : List Int32) (zc : Int32) (hE : Heap) (n0 : Nat) (O : Old Z n0 hE) (P0_ : Fld Z hE g c0_ "viewName" c6_ (.ref v)) (P1_ : LStr Z hE v tv cv) (D0_ : Sta Z Z.heap c1_ c5_ "Z" (.int zc)) (hlv : cv.length ≤ 2) (hzc : ¬ (zc = (0 : Int32))) :
    MW la Z hE mn46 jc43 1 (some (.object c1_)) ws (rr 6 8 392 91) #[(.ref g)] (Q_vs1 Z g v tv cv zc hE n0) := by
  refine MetFree.of_bodySF (plainFor_of_name pn_com_example_beanloft_beanloft_naming_GlobalName) hisR ?_
  intro pg ev sb mi gs below me cd s₁ Bd hml0 hPt hKt
  obtain ⟨rfl, hZ, hh, hH⟩ := hPt
  have hx := Bd.exec
  have hby := Bd.bytes
  have hml : cd.maxLocals = 1 := hml0
  have hown : sb.vm.findClass c0_ = some mi.cls := findClass_of_methodNamed Bd.named
  have X0 : Stand pg la ev (rr 6 8 392 91) (sb.setVm sb.vm) mi #[(.ref g)] below me cd s₁ [] 0 0 := Stand.of_body Bd
  have eE : s₁.heap = hE := by rw [← hh, Bd.state]; rfl
  have N0 := Fr.nil n0
  have pre0 : ∀ tt, SP pg ev below (s₁.setTop (mkF mi 0 #[.val (.ref g)] [])) tt → SP pg ev below (s₁.setTop (entryFrame mi #[(.ref g)] 1)) tt := fun tt kk => castTop (ef_vs1 mi g) kk
  have hS : sb.Since sb.vm 0 := (State.WarmedH.refl sb).since 0
  have hk : 0 ≤ hE.size := Nat.zero_le _
  have hEL := own_EW hw
  have C0 := CHr.refl hH
  obtain ⟨T101, X101, e101, st101⟩ := getF X0 hx hZ hown (host := "") (Or.inl (wd105 hw)) Via.refl eE P0_ (g := (mkF mi 1 #[.val (.ref g)] [(.ref g)])) rfl rfl (hb hby dj43_1)
  obtain ⟨T102, h102, X102, e102, E102, A102, D102, -, st102⟩ := newO X101 hx hZ hown (wd112 hw) (wd113 hw) (wd114 hw) e101 (g := (mkF mi 12 #[.val (.ref g)] [])) rfl (hb hby dj43_12) (by decide) (by decide)
  obtain ⟨b102, q102⟩ : ∃ z, z = hE.size := ⟨_, rfl⟩
  rw [← q102] at A102 D102 st102
  have c103 := CHr.ext E102 C0.1
  have C104 := CHr.trans C0 c103
  have f105 : Fld Z h102 b102 c2_ "value" "[B" .null := D102 (Or.inl (wd127 hw)) (ty := (.array .byte)) (by decide)
  have f106 : Fld Z h102 b102 c2_ "coder" "B" (.int 0) := D102 (Or.inl (wd129 hw)) (ty := .byte) (by decide)
  have f107 : Fld Z h102 b102 c2_ "count" "I" (.int 0) := D102 (Or.inl (wd147 hw)) (ty := .int) (by decide)
  have O108 : Old Z n0 h102 := (O.ext E102)
  have g_b102 : n0 ≤ b102 := Nat.le_trans (Nat.le_trans (Nat.le_of_eq O.1.symm) O.2.1) (Nat.le_of_eq q102.symm)
  obtain ⟨v109, _, ⟨T109, L109, k109, n109⟩, -, X109, ⟨Lc109, hQ109, l109, y109, z109⟩, st109⟩ := X102.specialBack hx (y := mn8) rfl hown (mvT hZ (wd115 hw)) (mvT hZ (wd116 hw)) (mvT hZ (wd117 hw)) (by decide) (backOf (W := 1) (rm_sbin la Z a0 hw [] b102 zc h102 n0 O108 A102 f105 f106 f107 D0_ g_b102 (hzc : ¬ (zc = (0 : Int32)))) hZ (wd117 hw) (wd114 hw) (by decide) (by decide)) (g := (mkF mi 16 #[.val (.ref g)] [(.ref b102), (.ref b102)])) rfl (by rw [hml]; rfl) (Steps.refl _) (a := b102) (argsL := []) (rest := [(.ref b102)]) (lenOf pd_27 rfl) rfl (Nat.le_of_ble_eq_true rfl) (hb hby dj43_16) (fun _ _ => ⟨rfl, e102, (by decide : 1 + 1 ≤ _), (by decide : 4 + 16 ≤ _)⟩)
  dsimp only [Pt.U, Pt.locs, Pt.cells, Pt.slots] at X109 l109 y109 z109 st109 hQ109
  subst l109 y109 z109
  obtain ⟨t_109, rfl, Nq109, Kq109, fr_t_109, r109_0⟩ := hQ109
  have N109 := Fr.app N0 Nq109
  have c110 := CHr.keep Kq109 (sfS (Safe.exa hZ.alike A102 (by decide) (by decide)) sf0) C104.1
  have C111 := CHr.trans C104 c110
  have sf112 : Safe Z ELs _ T109.heap t_109 := (Safe.keep Kq109 (sfS (Safe.exa hZ.alike A102 (by decide) (by decide)) sf0) C104.1 (Safe.new fr_t_109))
  obtain ⟨a113, T113, h113, k113, d113, kc113, X113, e113, E113, hS, hk, hZ, hown, lE113, lC113, lV113, lA113, -, -, c113, -, hne113, st113⟩ := ldcCH X109 hx hZ hown (wd96 hw) (own_wS hw) rfl hS (Nat.le_trans hk (Nat.le_trans E102.1 Kq109.1)) hEL (by decide +kernel) C111.1 (vs := ([(33 : Int32)] : List Int32).map fun c => Value.int c.toInt8.toInt32) (z := Int32.ofNat ([(33 : Int32)] : List Int32).length) (by decide +kernel) (by decide) (by decide) (g := (mkF mi 19 #[.val (.ref g)] [(.ref b102)])) rfl (hb hby dj43_19) (n := 4) (by decide) (by decide) (by decide) (by decide)
  have C114 := CHr.trans C111 c113
  have sf117 : Safe Z ELs _ h113 t_109 := (c113.safe r109_0.ltt sf112)
  have nl116 := hne113 t_109 sf117
  have s115 : LStr Z h113 a113 d113 ([(33 : Int32)] : List Int32) := ⟨lE113, lV113, lC113, ⟨_, lA113⟩, (by decide), (by decide)⟩
  have O118 : Old Z n0 h113 := ((O108.keep Kq109 (allS g_b102 all0)).ext E113)
  have f119 : SBl Z h113 b102 t_109 16 ([] : List Int32) := (r109_0.ext E113)
  have g_t_109 : n0 ≤ t_109 := Nat.le_trans (Nat.le_trans (Nat.le_of_eq O108.1.symm) O108.2.1) fr_t_109
  have ne_b102_t_109 : b102 ≠ t_109 := Nat.ne_of_lt (Nat.lt_of_lt_of_le A102.lt (Nat.le_trans (Nat.le_refl _) fr_t_109))
  have f120 : Exa Z h113 b102 c4_ := ((A102.keep Kq109).ext E113)
  have ne_a113_b102 : a113 ≠ b102 := ne_exa lE113 f120 (by decide)
  have ne_b102_d113 : b102 ≠ d113 := Exa.neArv f120 lA113 (wd113 hw)
  obtain ⟨cq121, kq121, q121a, q121b, q121c⟩ := isOf hZ e113 f120
  obtain ⟨v121, _, ⟨T121, L121, k121, n121⟩, -, X121, ⟨Lc121, hQ121, l121, y121, z121⟩, st121⟩ := X113.virtualBack hx (y := mn19) (z := mn19) hown (mvT hZ (wd131 hw)) (mvT hZ (wd132 hw)) (notFace_of_selects (args := #[]) (mvT hZ (wd134 hw))) (mvT hZ (wd134 hw)) (mvT hZ (wd133 hw)) (by decide) (backOf (W := 0) (rm_sap_fit la Z a0 hw [] b102 a113 t_109 d113 16 ([] : List Int32) ([(33 : Int32)] : List Int32) zc h113 n0 O118 f119 s115 D0_ g_b102 g_t_109 ne_b102_t_109 ne_a113_b102 (Ne.symm ne_b102_d113) (by first | assumption | exact Nat.le_of_ble_eq_true rfl | rfl | decide | omega : ([] : List Int32).length + ([(33 : Int32)] : List Int32).length ≤ 16) (hzc : ¬ (zc = (0 : Int32)))) hZ (wd135 hw) (wd114 hw) (by decide) (by decide)) q121a q121c (g := (mkF mi 21 #[.val (.ref g)] [(.ref a113), (.ref b102)])) rfl (by rw [hml]; rfl) (Steps.refl _) (argsL := [(.ref a113)]) (rest := []) (lenOf pd_30 rfl) rfl (Nat.le_of_ble_eq_true rfl) (hb hby dj43_21) (fun _ _ => ⟨rfl, e113, (by decide : 4 + 1 ≤ _), (by decide : 28 + 120 ≤ _)⟩)
  dsimp only [Pt.U, Pt.locs, Pt.cells, Pt.slots] at X121 l121 y121 z121 st121 hQ121
  subst l121 y121 z121
  obtain ⟨rfl, Nq121, Kq121, r121_0⟩ := hQ121
  have N121 := Fr.app N109 Nq121
  have c122 := CHr.keep Kq121 (sfS (Safe.exa hZ.alike f120 (by decide) (by decide)) (sfS sf117 sf0)) C114.1
  have C123 := CHr.trans C114 c122
  have ne_g_b102 : g ≠ b102 := Nat.ne_of_lt (Nat.lt_of_lt_of_le P0_.lt (Nat.le_trans (Nat.le_refl _) (Nat.le_of_eq q102.symm)))
  have ne_g_t_109 : g ≠ t_109 := Nat.ne_of_lt (Nat.lt_of_lt_of_le P0_.lt (Nat.le_trans E102.1 fr_t_109))
  have f124 : Fld Z T121.heap g c0_ "viewName" c6_ (.ref v) := ((((P0_.ext E102).keep Kq109 (ninS ne_g_b102 nin0)).ext E113).keep Kq121 (ninS ne_g_b102 (ninS ne_g_t_109 nin0)))
  obtain ⟨T125, X125, e125, st125⟩ := getF X121 hx hZ hown (host := "") (Or.inl (wd105 hw)) Via.refl rfl f124 (g := (mkF mi 25 #[.val (.ref g)] [(.ref g), (.ref b102)])) rfl rfl (hb hby dj43_25)
  have O126 : Old Z n0 T121.heap := (O118.keep Kq121 (allS g_b102 (allS g_t_109 all0)))
  have ne_v_b102 : v ≠ b102 := Nat.ne_of_lt (Nat.lt_of_lt_of_le P1_.lt (Nat.le_trans (Nat.le_refl _) (Nat.le_of_eq q102.symm)))
  have ne_tv_b102 : tv ≠ b102 := Nat.ne_of_lt (Nat.lt_of_lt_of_le P1_.ltt (Nat.le_trans (Nat.le_refl _) (Nat.le_of_eq q102.symm)))
  have ne_v_t_109 : v ≠ t_109 := Nat.ne_of_lt (Nat.lt_of_lt_of_le P1_.lt (Nat.le_trans E102.1 fr_t_109))
  have ne_tv_t_109 : tv ≠ t_109 := Nat.ne_of_lt (Nat.lt_of_lt_of_le P1_.ltt (Nat.le_trans E102.1 fr_t_109))
  have f127 : LStr Z T121.heap v tv cv := ((((P1_.ext E102).keep Kq109 (ninS ne_v_b102 nin0) (ninS ne_tv_b102 nin0)).ext E113).keep Kq121 (ninS ne_v_b102 (ninS ne_v_t_109 nin0)) (ninS ne_tv_b102 (ninS ne_tv_t_109 nin0)))
  have f129 : Exa Z T121.heap b102 c4_ := (f120.keep Kq121)
  obtain ⟨cq128, kq128, q128a, q128b, q128c⟩ := isOf hZ e125 f129
  obtain ⟨v128, _, ⟨T128, L128, k128, n128⟩, -, X128, ⟨Lc128, hQ128, l128, y128, z128⟩, st128⟩ := X125.virtualBack hx (y := mn19) (z := mn19) hown (mvT hZ (wd131 hw)) (mvT hZ (wd132 hw)) (notFace_of_selects (args := #[]) (mvT hZ (wd134 hw))) (mvT hZ (wd134 hw)) (mvT hZ (wd133 hw)) (by decide) (backOf (W := 0) (rm_sap_fit la Z a0 hw [] b102 v t_109 tv 16 (([] : List Int32) ++ ([(33 : Int32)] : List Int32)) cv zc T121.heap n0 O126 r121_0 f127 D0_ g_b102 g_t_109 ne_b102_t_109 ne_v_b102 ne_tv_b102 ((by simp only [List.length_append, List.length_cons, List.length_nil]; omega) : (([] : List Int32) ++ ([(33 : Int32)] : List Int32)).length + cv.length ≤ 16) (hzc : ¬ (zc = (0 : Int32)))) hZ (wd135 hw) (wd114 hw) (by decide) (by decide)) q128a q128c (g := (mkF mi 28 #[.val (.ref g)] [(.ref v), (.ref b102)])) rfl (by rw [hml]; rfl) (Steps.refl _) (argsL := [(.ref v)]) (rest := []) (lenOf pd_30 rfl) rfl (Nat.le_of_ble_eq_true rfl) (hb hby dj43_28) (fun _ _ => ⟨rfl, e125, (by decide : 5 + 1 ≤ _), (by decide : 148 + 120 ≤ _)⟩)
  dsimp only [Pt.U, Pt.locs, Pt.cells, Pt.slots] at X128 l128 y128 z128 st128 hQ128
  subst l128 y128 z128
  obtain ⟨rfl, Nq128, Kq128, r128_0⟩ := hQ128
  have N128 := Fr.app N121 Nq128
  have sf131 : Safe Z ELs _ T121.heap t_109 := (c122.safe (Nat.lt_of_lt_of_le r109_0.ltt E113.1) sf117)
  have c130 := CHr.keep Kq128 (sfS (Safe.exa hZ.alike f129 (by decide) (by decide)) (sfS sf131 sf0)) C123.1
  have C132 := CHr.trans C123 c130
  have O133 : Old Z n0 T128.heap := (O126.keep Kq128 (allS g_b102 (allS g_t_109 all0)))
  have f135 : Exa Z T128.heap b102 c4_ := (f129.keep Kq128)
  obtain ⟨cq134, kq134, q134a, q134b, q134c⟩ := isOf hZ rfl f135
  obtain ⟨v134, _, ⟨T134, L134, k134, n134⟩, -, X134, ⟨Lc134, hQ134, l134, y134, z134⟩, st134⟩ := X128.virtualBack hx (y := mn29) (z := mn29) hown (mvT hZ (wd178 hw)) (mvT hZ (wd179 hw)) (notFace_of_selects (args := #[]) (mvT hZ (wd181 hw))) (mvT hZ (wd181 hw)) (mvT hZ (wd180 hw)) (by decide) (backOf (W := 0) (rm_sbt_cut la Z a0 hw [] b102 t_109 16 ((([] : List Int32) ++ ([(33 : Int32)] : List Int32)) ++ cv) zc T128.heap n0 O133 r128_0 D0_ ((by simp only [List.length_append, List.length_cons, List.length_nil]; omega) : ((([] : List Int32) ++ ([(33 : Int32)] : List Int32)) ++ cv).length < 16) (hzc : ¬ (zc = (0 : Int32)))) hZ (wd182 hw) (wd114 hw) (by decide) (by decide)) q134a q134c (g := (mkF mi 31 #[.val (.ref g)] [(.ref b102)])) rfl (by rw [hml]; rfl) (Steps.refl _) (argsL := []) (rest := []) (lenOf pd_24 rfl) rfl (Nat.le_of_ble_eq_true rfl) (hb hby dj43_31) (fun _ _ => ⟨rfl, rfl, (by decide : 6 + 2 ≤ _), (by decide : 268 + 124 ≤ _)⟩)
  dsimp only [Pt.U, Pt.locs, Pt.cells, Pt.slots] at X134 l134 y134 z134 st134 hQ134
  subst l134 y134 z134
  obtain ⟨x_134, r_134, rfl, Nq134, Kq134, fr_x_134, fr_r_134, r134_0⟩ := hQ134
  have N134 := Fr.app N128 Nq134
  have c136 := CHr.keep Kq134 sf0 C132.1
  have C137 := CHr.trans C132 c136
  obtain ⟨fs, hr, hrun, hended, hWe⟩ := X134.leaveW hS (show _ ≤ T134.heap.size from (Nat.le_trans hk (Nat.le_trans (Nat.le_trans Kq121.1 Kq128.1) Kq134.1))) (v := some (.ref x_134)) (fun hq => by rw [Bd.returns] at hq; cases hq)
  refine ⟨_, _, pre0 _ ?_, hrun, hended, _, _, rfl, ?_, ?_, hWe.1, hWe.2.1, hWe.2.2.1, hWe.2.2.2.mono (by decide) (by decide)⟩
  · show SP pg ev below (s₁.setTop (mkF mi 0 #[.val (.ref g)] [])) _
    refine XS.aloadN X0.here hx rfl (hb hby dj43_0) rfl rfl ?_
    refine st101 _ ?_
    refine XS.ifnonnullYes X101.here hx rfl (pc0 := 4) (pc' := 12) rfl (hb hby dj43_4) rfl (by decide) (by decide) ?_
    refine st102 _ ?_
    refine XS.dup X102.here hx rfl (hb hby dj43_15) rfl rfl ?_
    refine st109.trans ?_
    refine st113 _ ?_
    refine st121.trans ?_
    refine XS.aloadN X121.here hx rfl (hb hby dj43_24) rfl rfl ?_
    refine st125 _ ?_
    refine st128.trans ?_
    refine st134.trans ?_
    show SP pg ev below (T134.setTop (mkF mi 34 #[.val (.ref g)] [(.ref x_134)])) _
    jvm_step X134.here [X134.here.top, hx, (hb hby dj43_34), X134.method', Bd.returns, Value.isRef, FieldType.isReference]
    first | (intro acts; rw [hr _ acts rfl rfl rfl]) | rw [hr _ _ rfl rfl rfl]
    exact Steps.refl _
  · show Q_vs1 Z g v tv cv zc hE n0 _ T134.heap _
    exact ⟨x_134, r_134, rfl, N134, (((((((Keep.refl hE []).ext E102).trans Kq109 (allS (Or.inr (Nat.le_of_eq q102.symm)) all0)).ext E113).trans Kq121 (allS (Or.inr (Nat.le_of_eq q102.symm)) (allS (Or.inr (Nat.le_trans E102.1 fr_t_109)) all0))).trans Kq128 (allS (Or.inr (Nat.le_of_eq q102.symm)) (allS (Or.inr (Nat.le_trans E102.1 fr_t_109)) all0))).trans Kq134 all0), r134_0⟩
  · show CHr Z ELs sb.vm sb.heap T134.vm T134.heap
    rw [hh]
    exact CHr.trans C137 (CHv.at X134 hZ hEL C137.1)
theorem dj43_7 : decode jc43 7 = .ok (.ldc 118, 2) := by decide +kernel
theorem dj43_9 : decode jc43 9 = .ok (.goto 25, 3) := by decide +kernel
theorem ef_vs0 (mi : MethodId) (g : Addr) : entryFrame mi #[(.ref g)] 1 = mkF mi 0 #[.val (.ref g)] [] := rfl
def Q_vs0 (Z : State) (g : Addr) (hE : Heap) (n0 : Nat) (vv : Option Value) (hh : Heap) (LL : List Loc) : Prop := ∃ x : Addr, ∃ t : Addr, (vv = some (.ref x)) ∧ (Fr n0 LL) ∧ (Keep hE hh []) ∧ (LStr Z hh x t ([] : List Int32))
theorem rm_vs0 (hw : HW a0 Z) (ws : List Cond) (g : Addr) (hE : Heap) (n0 : Nat) (O : Old Z n0 hE) (P0_ : Fld Z hE g c0_ "viewName" c6_ .null) :
    MW la Z hE mn46 jc43 1 (some (.object c1_)) ws (rr 6 8 392 91) #[(.ref g)] (Q_vs0 Z g hE n0) := by
  refine MetFree.of_bodySF (plainFor_of_name pn_com_example_beanloft_beanloft_naming_GlobalName) hisR ?_
  intro pg ev sb mi gs below me cd s₁ Bd hml0 hPt hKt
  obtain ⟨rfl, hZ, hh, hH⟩ := hPt
  have hx := Bd.exec
  have hby := Bd.bytes
  have hml : cd.maxLocals = 1 := hml0
  have hown : sb.vm.findClass c0_ = some mi.cls := findClass_of_methodNamed Bd.named
  have X0 : Stand pg la ev (rr 6 8 392 91) (sb.setVm sb.vm) mi #[(.ref g)] below me cd s₁ [] 0 0 := Stand.of_body Bd
  have eE : s₁.heap = hE := by rw [← hh, Bd.state]; rfl
  have N0 := Fr.nil n0
  have pre0 : ∀ tt, SP pg ev below (s₁.setTop (mkF mi 0 #[.val (.ref g)] [])) tt → SP pg ev below (s₁.setTop (entryFrame mi #[(.ref g)] 1)) tt := fun tt kk => castTop (ef_vs0 mi g) kk
  have hS : sb.Since sb.vm 0 := (State.WarmedH.refl sb).since 0
  have hk : 0 ≤ hE.size := Nat.zero_le _
  have hEL := own_EW hw
  have C0 := CHr.refl hH
  obtain ⟨T101, X101, e101, st101⟩ := getF X0 hx hZ hown (host := "") (Or.inl (wd105 hw)) Via.refl eE P0_ (g := (mkF mi 1 #[.val (.ref g)] [(.ref g)])) rfl rfl (hb hby dj43_1)
  obtain ⟨a102, T102, h102, k102, d102, kc102, X102, e102, E102, hS, hk, hZ, hown, lE102, lC102, lV102, lA102, -, -, c102, -, hne102, st102⟩ := ldcCH X101 hx hZ hown (wd177 hw) (own_wS hw) e101 hS hk hEL (by decide +kernel) C0.1 (vs := ([] : List Int32).map fun c => Value.int c.toInt8.toInt32) (z := Int32.ofNat ([] : List Int32).length) (by decide +kernel) (by decide) (by decide) (g := (mkF mi 7 #[.val (.ref g)] [])) rfl (hb hby dj43_7) (n := 0) (by decide) (by decide) (by decide) (by decide)
  have C103 := CHr.trans C0 c102
  have s104 : LStr Z h102 a102 d102 ([] : List Int32) := ⟨lE102, lV102, lC102, ⟨_, lA102⟩, (by decide), (by decide)⟩
  obtain ⟨fs, hr, hrun, hended, hWe⟩ := X102.leaveW hS (show _ ≤ T102.heap.size by rw [e102]; exact hk) (v := some (.ref a102)) (fun hq => by rw [Bd.returns] at hq; cases hq)
  refine ⟨_, _, pre0 _ ?_, hrun, hended, _, _, rfl, ?_, ?_, hWe.1, hWe.2.1, hWe.2.2.1, hWe.2.2.2.mono (by decide) (by decide)⟩
  · show SP pg ev below (s₁.setTop (mkF mi 0 #[.val (.ref g)] [])) _
    refine XS.aloadN X0.here hx rfl (hb hby dj43_0) rfl rfl ?_
    refine st101 _ ?_
    refine XS.ifnonnullNo X101.here hx rfl (hb hby dj43_4) rfl ?_
    refine st102 _ ?_
    refine XS.goto X102.here hx rfl (pc0 := 9) (pc' := 34) rfl (hb hby dj43_9) (by decide) (by decide) ?_
    show SP pg ev below (T102.setTop (mkF mi 34 #[.val (.ref g)] [(.ref a102)])) _
    jvm_step X102.here [X102.here.top, hx, (hb hby dj43_34), X102.method', Bd.returns, Value.isRef, FieldType.isReference]
    first | (intro acts; rw [hr _ acts rfl rfl rfl]) | rw [hr _ _ rfl rfl rfl]
    exact Steps.refl _
  · show Q_vs0 Z g hE n0 _ T102.heap _
    rw [e102]
    exact ⟨a102, d102, rfl, N0, ((Keep.refl hE []).ext E102), s104⟩
  · show CHr Z ELs sb.vm sb.heap T102.vm T102.heap
    rw [hh, e102]
    exact CHr.trans C103 (CHv.at X102 hZ hEL C103.1)
def Q_vsX (Z : State) (g : Addr) (vw : Value) (cv : List Int32) (zc : Int32) (hE : Heap) (n0 : Nat) (vv : Option Value) (hh : Heap) (LL : List Loc) : Prop := ∃ x : Addr, ∃ t : Addr, (vv = some (.ref x)) ∧ (Fr n0 LL) ∧ (Keep hE hh []) ∧ (LStr Z hh x t (svF vw cv))
theorem rm_vsX (hw : HW a0 Z) (ws : List Cond) (g : Addr) (vw : Value) (cv : List Int32) (zc : Int32) (hE : Heap) (n0 : Nat) (O : Old Z n0 hE) (P0_ : Fld Z hE g c0_ "viewName" c6_ vw) (P1_ : OStr Z hE vw cv) (D0_ : Sta Z Z.heap c1_ c5_ "Z" (.int zc)) (hlv : cv.length ≤ 2) (hzc : ¬ (zc = (0 : Int32))) :
    MW la Z hE mn46 jc43 1 (some (.object c1_)) ws (rr 6 8 392 91) #[(.ref g)] (Q_vsX Z g vw cv zc hE n0) := by
  rcases P1_ with rfl | ⟨a, t, rfl, S⟩
  · exact rm_vs0 la Z a0 hw ws g hE n0 O P0_
  · exact rm_vs1 la Z a0 hw ws g a t cv zc hE n0 O P0_ S D0_ hlv hzc
theorem dj44_0 : decode jc44 0 = .ok (.new 70, 3) := by decide +kernel
theorem dj44_3 : decode jc44 3 = .ok (.dup, 1) := by decide +kernel
theorem dj44_4 : decode jc44 4 = .ok (.invokespecial 72, 3) := by decide +kernel
theorem dj44_7 : decode jc44 7 = .ok (.ldc 103, 2) := by decide +kernel
theorem dj44_9 : decode jc44 9 = .ok (.invokevirtual 75, 3) := by decide +kernel
theorem dj44_12 : decode jc44 12 = .ok (.aload_n 0, 1) := by decide +kernel
theorem dj44_13 : decode jc44 13 = .ok (.getfield 35, 3) := by decide +kernel
theorem dj44_16 : decode jc44 16 = .ok (.invokevirtual 75, 3) := by decide +kernel
theorem dj44_19 : decode jc44 19 = .ok (.ldc 105, 2) := by decide +kernel
theorem dj44_21 : decode jc44 21 = .ok (.invokevirtual 75, 3) := by decide +kernel
theorem dj44_24 : decode jc44 24 = .ok (.aload_n 0, 1) := by decide +kernel
theorem dj44_25 : decode jc44 25 = .ok (.getfield 37, 3) := by decide +kernel
theorem dj44_28 : decode jc44 28 = .ok (.invokevirtual 75, 3) := by decide +kernel
theorem dj44_31 : decode jc44 31 = .ok (.aload_n 0, 1) := by decide +kernel
theorem dj44_32 : decode jc44 32 = .ok (.invokevirtual 107, 3) := by decide +kernel
theorem dj44_35 : decode jc44 35 = .ok (.invokevirtual 75, 3) := by decide +kernel
theorem dj44_38 : decode jc44 38 = .ok (.invokevirtual 84, 3) := by decide +kernel
theorem dj44_41 : decode jc44 41 = .ok (.areturn, 1) := by decide +kernel
theorem ef_iaX (mi : MethodId) (g : Addr) : entryFrame mi #[(.ref g)] 1 = mkF mi 0 #[.val (.ref g)] [] := rfl
def Q_iaX (Z : State) (g m tm : Addr) (cm : List Int32) (b tb : Addr) (cb : List Int32) (vw : Value) (cv : List Int32) (zc : Int32) (hE : Heap) (n0 : Nat) (vv : Option Value) (hh : Heap) (LL : List Loc) : Prop := ∃ x : Addr, ∃ t : Addr, (vv = some (.ref x)) ∧ (Fr n0 LL) ∧ (Keep hE hh []) ∧ (hE.size ≤ x) ∧ (hE.size ≤ t) ∧ (LStr Z hh x t (((((([] : List Int32) ++ ([(106 : Int32), (97 : Int32), (118 : Int32), (97 : Int32), (58 : Int32), (97 : Int32), (112 : Int32), (112 : Int32), (47 : Int32)] : List Int32)) ++ cm) ++ ([(47 : Int32)] : List Int32)) ++ cb) ++ (svF vw cv)))
theorem rm_iaX (hw : HW a0 Z) (ws : List Cond) (g m tm : Addr) (cm : List Int32) (b tb : Addr) (cb : List Int32) (vw : Value) (cv : List Int32) (zc : Int32) (hE : Heap) (n0 : Nat) (O : Old Z n0 hE) (P0_ : Exa Z hE g c0_) (P1_ : Fld Z hE g c0_ c28_ c6_ (.ref m)) (P2_ : LStr Z hE m tm cm) (P3_ : Fld Z hE g c0_ "beanName" c6_ (.ref b)) (P4_ : LStr Z hE b tb cb) (P5_ : Fld Z hE g c0_ "viewName" c6_ vw) (P6_ : OStr Z hE vw cv) (D0_ : Sta Z Z.heap c1_ c5_ "Z" (.int zc)) (hlm : cm.length ≤ 2) (hlb : cb.length ≤ 2) (hlv : cv.length ≤ 2) (hzc : ¬ (zc = (0 : Int32))) :
    MW la Z hE mn47 jc44 1 (some (.object c1_)) ws (rr 7 21 1184 104) #[(.ref g)] (Q_iaX Z g m tm cm b tb cb vw cv zc hE n0) := by
  refine MetFree.of_bodySF (plainFor_of_name pn_com_example_beanloft_beanloft_naming_GlobalName) hisR ?_
  intro pg ev sb mi gs below me cd s₁ Bd hml0 hPt hKt
  obtain ⟨rfl, hZ, hh, hH⟩ := hPt
  have hx := Bd.exec
  have hby := Bd.bytes
  have hml : cd.maxLocals = 1 := hml0
  have hown : sb.vm.findClass c0_ = some mi.cls := findClass_of_methodNamed Bd.named
  have X0 : Stand pg la ev (rr 7 21 1184 104) (sb.setVm sb.vm) mi #[(.ref g)] below me cd s₁ [] 0 0 := Stand.of_body Bd
  have eE : s₁.heap = hE := by rw [← hh, Bd.state]; rfl
  have N0 := Fr.nil n0
  have pre0 : ∀ tt, SP pg ev below (s₁.setTop (mkF mi 0 #[.val (.ref g)] [])) tt → SP pg ev below (s₁.setTop (entryFrame mi #[(.ref g)] 1)) tt := fun tt kk => castTop (ef_iaX mi g) kk
  have hS : sb.Since sb.vm 0 := (State.WarmedH.refl sb).since 0
  have hk : 0 ≤ hE.size := Nat.zero_le _
  have hEL := own_EW hw
  have C0 := CHr.refl hH
  obtain ⟨T101, h101, X101, e101, E101, A101, D101, -, st101⟩ := newO X0 hx hZ hown (wd112 hw) (wd113 hw) (wd114 hw) eE (g := (mkF mi 0 #[.val (.ref g)] [])) rfl (hb hby dj44_0) (by decide) (by decide)
  obtain ⟨b101, q101⟩ : ∃ z, z = hE.size := ⟨_, rfl⟩
  rw [← q101] at A101 D101 st101
  have c102 := CHr.ext E101 C0.1
  have C103 := CHr.trans C0 c102
  have f104 : Fld Z h101 b101 c2_ "value" "[B" .null := D101 (Or.inl (wd127 hw)) (ty := (.array .byte)) (by decide)
  have f105 : Fld Z h101 b101 c2_ "coder" "B" (.int 0) := D101 (Or.inl (wd129 hw)) (ty := .byte) (by decide)
  have f106 : Fld Z h101 b101 c2_ "count" "I" (.int 0) := D101 (Or.inl (wd147 hw)) (ty := .int) (by decide)
  have O107 : Old Z n0 h101 := (O.ext E101)
  have g_b101 : n0 ≤ b101 := Nat.le_trans (Nat.le_trans (Nat.le_of_eq O.1.symm) O.2.1) (Nat.le_of_eq q101.symm)
  obtain ⟨v108, _, ⟨T108, L108, k108, n108⟩, -, X108, ⟨Lc108, hQ108, l108, y108, z108⟩, st108⟩ := X101.specialBack hx (y := mn8) rfl hown (mvT hZ (wd115 hw)) (mvT hZ (wd116 hw)) (mvT hZ (wd117 hw)) (by decide) (backOf (W := 1) (rm_sbin la Z a0 hw [] b101 zc h101 n0 O107 A101 f104 f105 f106 D0_ g_b101 (hzc : ¬ (zc = (0 : Int32)))) hZ (wd117 hw) (wd114 hw) (by decide) (by decide)) (g := (mkF mi 4 #[.val (.ref g)] [(.ref b101), (.ref b101)])) rfl (by rw [hml]; rfl) (Steps.refl _) (a := b101) (argsL := []) (rest := [(.ref b101)]) (lenOf pd_27 rfl) rfl (Nat.le_of_ble_eq_true rfl) (hb hby dj44_4) (fun _ _ => ⟨rfl, e101, (by decide : 1 + 1 ≤ _), (by decide : 4 + 16 ≤ _)⟩)
  dsimp only [Pt.U, Pt.locs, Pt.cells, Pt.slots] at X108 l108 y108 z108 st108 hQ108
  subst l108 y108 z108
  obtain ⟨t_108, rfl, Nq108, Kq108, fr_t_108, r108_0⟩ := hQ108
  have N108 := Fr.app N0 Nq108
  have c109 := CHr.keep Kq108 (sfS (Safe.exa hZ.alike A101 (by decide) (by decide)) sf0) C103.1
  have C110 := CHr.trans C103 c109
  have sf111 : Safe Z ELs _ T108.heap t_108 := (Safe.keep Kq108 (sfS (Safe.exa hZ.alike A101 (by decide) (by decide)) sf0) C103.1 (Safe.new fr_t_108))
  obtain ⟨a112, T112, h112, k112, d112, kc112, X112, e112, E112, hS, hk, hZ, hown, lE112, lC112, lV112, lA112, -, -, c112, -, hne112, st112⟩ := ldcCH X108 hx hZ hown (wd130 hw) (own_wS hw) rfl hS (Nat.le_trans hk (Nat.le_trans E101.1 Kq108.1)) hEL (by decide +kernel) C110.1 (vs := ([(106 : Int32), (97 : Int32), (118 : Int32), (97 : Int32), (58 : Int32), (97 : Int32), (112 : Int32), (112 : Int32), (47 : Int32)] : List Int32).map fun c => Value.int c.toInt8.toInt32) (z := Int32.ofNat ([(106 : Int32), (97 : Int32), (118 : Int32), (97 : Int32), (58 : Int32), (97 : Int32), (112 : Int32), (112 : Int32), (47 : Int32)] : List Int32).length) (by decide +kernel) (by decide) (by decide) (g := (mkF mi 7 #[.val (.ref g)] [(.ref b101)])) rfl (hb hby dj44_7) (n := 36) (by decide) (by decide) (by decide) (by decide)
  have C113 := CHr.trans C110 c112
  have sf116 : Safe Z ELs _ h112 t_108 := (c112.safe r108_0.ltt sf111)
  have nl115 := hne112 t_108 sf116
  have s114 : LStr Z h112 a112 d112 ([(106 : Int32), (97 : Int32), (118 : Int32), (97 : Int32), (58 : Int32), (97 : Int32), (112 : Int32), (112 : Int32), (47 : Int32)] : List Int32) := ⟨lE112, lV112, lC112, ⟨_, lA112⟩, (by decide), (by decide)⟩
  have O117 : Old Z n0 h112 := ((O107.keep Kq108 (allS g_b101 all0)).ext E112)
  have f118 : SBl Z h112 b101 t_108 16 ([] : List Int32) := (r108_0.ext E112)
  have g_t_108 : n0 ≤ t_108 := Nat.le_trans (Nat.le_trans (Nat.le_of_eq O107.1.symm) O107.2.1) fr_t_108
  have ne_b101_t_108 : b101 ≠ t_108 := Nat.ne_of_lt (Nat.lt_of_lt_of_le A101.lt (Nat.le_trans (Nat.le_refl _) fr_t_108))
  have f119 : Exa Z h112 b101 c4_ := ((A101.keep Kq108).ext E112)
  have ne_a112_b101 : a112 ≠ b101 := ne_exa lE112 f119 (by decide)
  have ne_b101_d112 : b101 ≠ d112 := Exa.neArv f119 lA112 (wd113 hw)
  obtain ⟨cq120, kq120, q120a, q120b, q120c⟩ := isOf hZ e112 f119
  obtain ⟨v120, _, ⟨T120, L120, k120, n120⟩, -, X120, ⟨Lc120, hQ120, l120, y120, z120⟩, st120⟩ := X112.virtualBack hx (y := mn19) (z := mn19) hown (mvT hZ (wd131 hw)) (mvT hZ (wd132 hw)) (notFace_of_selects (args := #[]) (mvT hZ (wd134 hw))) (mvT hZ (wd134 hw)) (mvT hZ (wd133 hw)) (by decide) (backOf (W := 0) (rm_sap_fit la Z a0 hw [] b101 a112 t_108 d112 16 ([] : List Int32) ([(106 : Int32), (97 : Int32), (118 : Int32), (97 : Int32), (58 : Int32), (97 : Int32), (112 : Int32), (112 : Int32), (47 : Int32)] : List Int32) zc h112 n0 O117 f118 s114 D0_ g_b101 g_t_108 ne_b101_t_108 ne_a112_b101 (Ne.symm ne_b101_d112) (by first | assumption | exact Nat.le_of_ble_eq_true rfl | rfl | decide | omega : ([] : List Int32).length + ([(106 : Int32), (97 : Int32), (118 : Int32), (97 : Int32), (58 : Int32), (97 : Int32), (112 : Int32), (112 : Int32), (47 : Int32)] : List Int32).length ≤ 16) (hzc : ¬ (zc = (0 : Int32)))) hZ (wd135 hw) (wd114 hw) (by decide) (by decide)) q120a q120c (g := (mkF mi 9 #[.val (.ref g)] [(.ref a112), (.ref b101)])) rfl (by rw [hml]; rfl) (Steps.refl _) (argsL := [(.ref a112)]) (rest := []) (lenOf pd_30 rfl) rfl (Nat.le_of_ble_eq_true rfl) (hb hby dj44_9) (fun _ _ => ⟨rfl, e112, (by decide : 4 + 1 ≤ _), (by decide : 60 + 120 ≤ _)⟩)
  dsimp only [Pt.U, Pt.locs, Pt.cells, Pt.slots] at X120 l120 y120 z120 st120 hQ120
  subst l120 y120 z120
  obtain ⟨rfl, Nq120, Kq120, r120_0⟩ := hQ120
  have N120 := Fr.app N108 Nq120
  have c121 := CHr.keep Kq120 (sfS (Safe.exa hZ.alike f119 (by decide) (by decide)) (sfS sf116 sf0)) C113.1
  have C122 := CHr.trans C113 c121
  have ne_g_b101 : g ≠ b101 := Nat.ne_of_lt (Nat.lt_of_lt_of_le P0_.lt (Nat.le_trans (Nat.le_refl _) (Nat.le_of_eq q101.symm)))
  have ne_g_t_108 : g ≠ t_108 := Nat.ne_of_lt (Nat.lt_of_lt_of_le P0_.lt (Nat.le_trans E101.1 fr_t_108))
  have f123 : Fld Z T120.heap g c0_ c28_ c6_ (.ref m) := ((((P1_.ext E101).keep Kq108 (ninS ne_g_b101 nin0)).ext E112).keep Kq120 (ninS ne_g_b101 (ninS ne_g_t_108 nin0)))
  obtain ⟨T124, X124, e124, st124⟩ := getF X120 hx hZ hown (host := "") (Or.inl (wd101 hw)) Via.refl rfl f123 (g := (mkF mi 13 #[.val (.ref g)] [(.ref g), (.ref b101)])) rfl rfl (hb hby dj44_13)
  have O125 : Old Z n0 T120.heap := (O117.keep Kq120 (allS g_b101 (allS g_t_108 all0)))
  have ne_m_b101 : m ≠ b101 := Nat.ne_of_lt (Nat.lt_of_lt_of_le P2_.lt (Nat.le_trans (Nat.le_refl _) (Nat.le_of_eq q101.symm)))
  have ne_tm_b101 : tm ≠ b101 := Nat.ne_of_lt (Nat.lt_of_lt_of_le P2_.ltt (Nat.le_trans (Nat.le_refl _) (Nat.le_of_eq q101.symm)))
  have ne_m_t_108 : m ≠ t_108 := Nat.ne_of_lt (Nat.lt_of_lt_of_le P2_.lt (Nat.le_trans E101.1 fr_t_108))
  have ne_tm_t_108 : tm ≠ t_108 := Nat.ne_of_lt (Nat.lt_of_lt_of_le P2_.ltt (Nat.le_trans E101.1 fr_t_108))
  have f126 : LStr Z T120.heap m tm cm := ((((P2_.ext E101).keep Kq108 (ninS ne_m_b101 nin0) (ninS ne_tm_b101 nin0)).ext E112).keep Kq120 (ninS ne_m_b101 (ninS ne_m_t_108 nin0)) (ninS ne_tm_b101 (ninS ne_tm_t_108 nin0)))
  have f128 : Exa Z T120.heap b101 c4_ := (f119.keep Kq120)
  obtain ⟨cq127, kq127, q127a, q127b, q127c⟩ := isOf hZ e124 f128
  obtain ⟨v127, _, ⟨T127, L127, k127, n127⟩, -, X127, ⟨Lc127, hQ127, l127, y127, z127⟩, st127⟩ := X124.virtualBack hx (y := mn19) (z := mn19) hown (mvT hZ (wd131 hw)) (mvT hZ (wd132 hw)) (notFace_of_selects (args := #[]) (mvT hZ (wd134 hw))) (mvT hZ (wd134 hw)) (mvT hZ (wd133 hw)) (by decide) (backOf (W := 0) (rm_sap_fit la Z a0 hw [] b101 m t_108 tm 16 (([] : List Int32) ++ ([(106 : Int32), (97 : Int32), (118 : Int32), (97 : Int32), (58 : Int32), (97 : Int32), (112 : Int32), (112 : Int32), (47 : Int32)] : List Int32)) cm zc T120.heap n0 O125 r120_0 f126 D0_ g_b101 g_t_108 ne_b101_t_108 ne_m_b101 ne_tm_b101 ((by simp only [List.length_append, List.length_cons, List.length_nil]; omega) : (([] : List Int32) ++ ([(106 : Int32), (97 : Int32), (118 : Int32), (97 : Int32), (58 : Int32), (97 : Int32), (112 : Int32), (112 : Int32), (47 : Int32)] : List Int32)).length + cm.length ≤ 16) (hzc : ¬ (zc = (0 : Int32)))) hZ (wd135 hw) (wd114 hw) (by decide) (by decide)) q127a q127c (g := (mkF mi 16 #[.val (.ref g)] [(.ref m), (.ref b101)])) rfl (by rw [hml]; rfl) (Steps.refl _) (argsL := [(.ref m)]) (rest := []) (lenOf pd_30 rfl) rfl (Nat.le_of_ble_eq_true rfl) (hb hby dj44_16) (fun _ _ => ⟨rfl, e124, (by decide : 5 + 1 ≤ _), (by decide : 180 + 120 ≤ _)⟩)
  dsimp only [Pt.U, Pt.locs, Pt.cells, Pt.slots] at X127 l127 y127 z127 st127 hQ127
  subst l127 y127 z127
  obtain ⟨rfl, Nq127, Kq127, r127_0⟩ := hQ127
  have N127 := Fr.app N120 Nq127
  have sf130 : Safe Z ELs _ T120.heap t_108 := (c121.safe (Nat.lt_of_lt_of_le r108_0.ltt E112.1) sf116)
  have c129 := CHr.keep Kq127 (sfS (Safe.exa hZ.alike f128 (by decide) (by decide)) (sfS sf130 sf0)) C122.1
  have C131 := CHr.trans C122 c129
  obtain ⟨a132, T132, h132, k132, d132, kc132, X132, e132, E132, hS, hk, hZ, hown, lE132, lC132, lV132, lA132, -, -, c132, -, hne132, st132⟩ := ldcCH X127 hx hZ hown (wd60 hw) (own_wS hw) rfl hS (Nat.le_trans hk (Nat.le_trans Kq120.1 Kq127.1)) hEL (by decide +kernel) C131.1 (vs := ([(47 : Int32)] : List Int32).map fun c => Value.int c.toInt8.toInt32) (z := Int32.ofNat ([(47 : Int32)] : List Int32).length) (by decide +kernel) (by decide) (by decide) (g := (mkF mi 19 #[.val (.ref g)] [(.ref b101)])) rfl (hb hby dj44_19) (n := 4) (by decide) (by decide) (by decide) (by decide)
  have C133 := CHr.trans C131 c132
  have sf136 : Safe Z ELs _ h132 t_108 := (c132.safe (Nat.lt_of_lt_of_le r108_0.ltt (Nat.le_trans (Nat.le_trans E112.1 Kq120.1) Kq127.1)) (c129.safe (Nat.lt_of_lt_of_le r108_0.ltt (Nat.le_trans E112.1 Kq120.1)) sf130))
  have nl135 := hne132 t_108 sf136
  have s134 : LStr Z h132 a132 d132 ([(47 : Int32)] : List Int32) := ⟨lE132, lV132, lC132, ⟨_, lA132⟩, (by decide), (by decide)⟩
  have O137 : Old Z n0 h132 := ((O125.keep Kq127 (allS g_b101 (allS g_t_108 all0))).ext E132)
  have f138 : SBl Z h132 b101 t_108 16 ((([] : List Int32) ++ ([(106 : Int32), (97 : Int32), (118 : Int32), (97 : Int32), (58 : Int32), (97 : Int32), (112 : Int32), (112 : Int32), (47 : Int32)] : List Int32)) ++ cm) := (r127_0.ext E132)
  have f139 : Exa Z h132 b101 c4_ := ((f128.keep Kq127).ext E132)
  have ne_a132_b101 : a132 ≠ b101 := ne_exa lE132 f139 (by decide)
  have ne_b101_d132 : b101 ≠ d132 := Exa.neArv f139 lA132 (wd113 hw)
  obtain ⟨cq140, kq140, q140a, q140b, q140c⟩ := isOf hZ e132 f139
  obtain ⟨v140, _, ⟨T140, L140, k140, n140⟩, -, X140, ⟨Lc140, hQ140, l140, y140, z140⟩, st140⟩ := X132.virtualBack hx (y := mn19) (z := mn19) hown (mvT hZ (wd131 hw)) (mvT hZ (wd132 hw)) (notFace_of_selects (args := #[]) (mvT hZ (wd134 hw))) (mvT hZ (wd134 hw)) (mvT hZ (wd133 hw)) (by decide) (backOf (W := 0) (rm_sap_fit la Z a0 hw [] b101 a132 t_108 d132 16 ((([] : List Int32) ++ ([(106 : Int32), (97 : Int32), (118 : Int32), (97 : Int32), (58 : Int32), (97 : Int32), (112 : Int32), (112 : Int32), (47 : Int32)] : List Int32)) ++ cm) ([(47 : Int32)] : List Int32) zc h132 n0 O137 f138 s134 D0_ g_b101 g_t_108 ne_b101_t_108 ne_a132_b101 (Ne.symm ne_b101_d132) ((by simp only [List.length_append, List.length_cons, List.length_nil]; omega) : ((([] : List Int32) ++ ([(106 : Int32), (97 : Int32), (118 : Int32), (97 : Int32), (58 : Int32), (97 : Int32), (112 : Int32), (112 : Int32), (47 : Int32)] : List Int32)) ++ cm).length + ([(47 : Int32)] : List Int32).length ≤ 16) (hzc : ¬ (zc = (0 : Int32)))) hZ (wd135 hw) (wd114 hw) (by decide) (by decide)) q140a q140c (g := (mkF mi 21 #[.val (.ref g)] [(.ref a132), (.ref b101)])) rfl (by rw [hml]; rfl) (Steps.refl _) (argsL := [(.ref a132)]) (rest := []) (lenOf pd_30 rfl) rfl (Nat.le_of_ble_eq_true rfl) (hb hby dj44_21) (fun _ _ => ⟨rfl, e132, (by decide : 8 + 1 ≤ _), (by decide : 308 + 120 ≤ _)⟩)
  dsimp only [Pt.U, Pt.locs, Pt.cells, Pt.slots] at X140 l140 y140 z140 st140 hQ140
  subst l140 y140 z140
  obtain ⟨rfl, Nq140, Kq140, r140_0⟩ := hQ140
  have N140 := Fr.app N127 Nq140
  have c141 := CHr.keep Kq140 (sfS (Safe.exa hZ.alike f139 (by decide) (by decide)) (sfS sf136 sf0)) C133.1
  have C142 := CHr.trans C133 c141
  have f143 : Fld Z T140.heap g c0_ "beanName" c6_ (.ref b) := (((((((P3_.ext E101).keep Kq108 (ninS ne_g_b101 nin0)).ext E112).keep Kq120 (ninS ne_g_b101 (ninS ne_g_t_108 nin0))).keep Kq127 (ninS ne_g_b101 (ninS ne_g_t_108 nin0))).ext E132).keep Kq140 (ninS ne_g_b101 (ninS ne_g_t_108 nin0)))
  obtain ⟨T144, X144, e144, st144⟩ := getF X140 hx hZ hown (host := "") (Or.inl (wd103 hw)) Via.refl rfl f143 (g := (mkF mi 25 #[.val (.ref g)] [(.ref g), (.ref b101)])) rfl rfl (hb hby dj44_25)
  have O145 : Old Z n0 T140.heap := (O137.keep Kq140 (allS g_b101 (allS g_t_108 all0)))
  have ne_b_b101 : b ≠ b101 := Nat.ne_of_lt (Nat.lt_of_lt_of_le P4_.lt (Nat.le_trans (Nat.le_refl _) (Nat.le_of_eq q101.symm)))
  have ne_tb_b101 : tb ≠ b101 := Nat.ne_of_lt (Nat.lt_of_lt_of_le P4_.ltt (Nat.le_trans (Nat.le_refl _) (Nat.le_of_eq q101.symm)))
  have ne_b_t_108 : b ≠ t_108 := Nat.ne_of_lt (Nat.lt_of_lt_of_le P4_.lt (Nat.le_trans E101.1 fr_t_108))
  have ne_tb_t_108 : tb ≠ t_108 := Nat.ne_of_lt (Nat.lt_of_lt_of_le P4_.ltt (Nat.le_trans E101.1 fr_t_108))
  have f146 : LStr Z T140.heap b tb cb := (((((((P4_.ext E101).keep Kq108 (ninS ne_b_b101 nin0) (ninS ne_tb_b101 nin0)).ext E112).keep Kq120 (ninS ne_b_b101 (ninS ne_b_t_108 nin0)) (ninS ne_tb_b101 (ninS ne_tb_t_108 nin0))).keep Kq127 (ninS ne_b_b101 (ninS ne_b_t_108 nin0)) (ninS ne_tb_b101 (ninS ne_tb_t_108 nin0))).ext E132).keep Kq140 (ninS ne_b_b101 (ninS ne_b_t_108 nin0)) (ninS ne_tb_b101 (ninS ne_tb_t_108 nin0)))
  have f148 : Exa Z T140.heap b101 c4_ := (f139.keep Kq140)
  obtain ⟨cq147, kq147, q147a, q147b, q147c⟩ := isOf hZ e144 f148
  obtain ⟨v147, _, ⟨T147, L147, k147, n147⟩, -, X147, ⟨Lc147, hQ147, l147, y147, z147⟩, st147⟩ := X144.virtualBack hx (y := mn19) (z := mn19) hown (mvT hZ (wd131 hw)) (mvT hZ (wd132 hw)) (notFace_of_selects (args := #[]) (mvT hZ (wd134 hw))) (mvT hZ (wd134 hw)) (mvT hZ (wd133 hw)) (by decide) (backOf (W := 0) (rm_sap_fit la Z a0 hw [] b101 b t_108 tb 16 (((([] : List Int32) ++ ([(106 : Int32), (97 : Int32), (118 : Int32), (97 : Int32), (58 : Int32), (97 : Int32), (112 : Int32), (112 : Int32), (47 : Int32)] : List Int32)) ++ cm) ++ ([(47 : Int32)] : List Int32)) cb zc T140.heap n0 O145 r140_0 f146 D0_ g_b101 g_t_108 ne_b101_t_108 ne_b_b101 ne_tb_b101 ((by simp only [List.length_append, List.length_cons, List.length_nil]; omega) : (((([] : List Int32) ++ ([(106 : Int32), (97 : Int32), (118 : Int32), (97 : Int32), (58 : Int32), (97 : Int32), (112 : Int32), (112 : Int32), (47 : Int32)] : List Int32)) ++ cm) ++ ([(47 : Int32)] : List Int32)).length + cb.length ≤ 16) (hzc : ¬ (zc = (0 : Int32)))) hZ (wd135 hw) (wd114 hw) (by decide) (by decide)) q147a q147c (g := (mkF mi 28 #[.val (.ref g)] [(.ref b), (.ref b101)])) rfl (by rw [hml]; rfl) (Steps.refl _) (argsL := [(.ref b)]) (rest := []) (lenOf pd_30 rfl) rfl (Nat.le_of_ble_eq_true rfl) (hb hby dj44_28) (fun _ _ => ⟨rfl, e144, (by decide : 9 + 1 ≤ _), (by decide : 428 + 120 ≤ _)⟩)
  dsimp only [Pt.U, Pt.locs, Pt.cells, Pt.slots] at X147 l147 y147 z147 st147 hQ147
  subst l147 y147 z147
  obtain ⟨rfl, Nq147, Kq147, r147_0⟩ := hQ147
  have N147 := Fr.app N140 Nq147
  have sf150 : Safe Z ELs _ T140.heap t_108 := (c141.safe (Nat.lt_of_lt_of_le r108_0.ltt (Nat.le_trans (Nat.le_trans (Nat.le_trans E112.1 Kq120.1) Kq127.1) E132.1)) sf136)
  have c149 := CHr.keep Kq147 (sfS (Safe.exa hZ.alike f148 (by decide) (by decide)) (sfS sf150 sf0)) C142.1
  have C151 := CHr.trans C142 c149
  have O152 : Old Z n0 T147.heap := (O145.keep Kq147 (allS g_b101 (allS g_t_108 all0)))
  have f153 : Fld Z T147.heap g c0_ "viewName" c6_ vw := ((((((((P5_.ext E101).keep Kq108 (ninS ne_g_b101 nin0)).ext E112).keep Kq120 (ninS ne_g_b101 (ninS ne_g_t_108 nin0))).keep Kq127 (ninS ne_g_b101 (ninS ne_g_t_108 nin0))).ext E132).keep Kq140 (ninS ne_g_b101 (ninS ne_g_t_108 nin0))).keep Kq147 (ninS ne_g_b101 (ninS ne_g_t_108 nin0)))
  have f154 : OStr Z T147.heap vw cv := P6_.keep (((((((((Keep.refl hE []).ext E101).trans Kq108 (allS (Or.inr (Nat.le_of_eq q101.symm)) all0)).ext E112).trans Kq120 (allS (Or.inr (Nat.le_of_eq q101.symm)) (allS (Or.inr (Nat.le_trans E101.1 fr_t_108)) all0))).trans Kq127 (allS (Or.inr (Nat.le_of_eq q101.symm)) (allS (Or.inr (Nat.le_trans E101.1 fr_t_108)) all0))).ext E132).trans Kq140 (allS (Or.inr (Nat.le_of_eq q101.symm)) (allS (Or.inr (Nat.le_trans E101.1 fr_t_108)) all0))).trans Kq147 (allS (Or.inr (Nat.le_of_eq q101.symm)) (allS (Or.inr (Nat.le_trans E101.1 fr_t_108)) all0)))
  have f156 : Exa Z T147.heap g c0_ := ((((((((P0_.ext E101).keep Kq108).ext E112).keep Kq120).keep Kq127).ext E132).keep Kq140).keep Kq147)
  obtain ⟨cq155, qq155, qq155'⟩ := f156.cell
  obtain ⟨v155, _, ⟨T155, L155, k155, n155⟩, -, X155, s155, gr155, ⟨Lc155, hQ155, l155, y155, z155, c155⟩, st155⟩ := X147.privateBackS hx (y := mn46) hown (mvT hZ (wd173 hw)) (mvT hZ (wd174 hw)) (own_selP (mvT (args := #[]) hZ (wd110 hw)) rfl (Cond.privateMethod_at (mvP hZ (wd175 hw) (args := #[]))) (mvT hZ (wd174 hw)) (by decide)) (Cond.privateMethod_at (mvP hZ (wd175 hw) (args := #[]))) (mvT hZ (wd176 hw)) (by decide) (backOfSH (W := 1) (rm_vsX la Z a0 hw [] g vw cv zc T147.heap n0 O152 f153 f154 D0_ (hlv : cv.length ≤ 2) (hzc : ¬ (zc = (0 : Int32)))) hZ (wd176 hw) (wd32 hw) (by decide) (by decide) hEL C151.1) (g := (mkF mi 32 #[.val (.ref g)] [(.ref g), (.ref b101)])) rfl (by rw [hml]; rfl) (Steps.refl _) (a := g) qq155 qq155' (argsL := []) (rest := [(.ref b101)]) (lenOf pd_24 rfl) rfl (Nat.le_of_ble_eq_true rfl) (hb hby dj44_32) (fun _ _ => ⟨rfl, rfl, (by decide : 10 + 8 ≤ _), (by decide : 548 + 392 ≤ _)⟩)
  dsimp only [Pt.U, Pt.locs, Pt.cells, Pt.slots] at X155 s155 gr155 l155 y155 z155 c155 st155 hQ155
  subst l155 y155 z155
  obtain ⟨X155, hS, hZ, hown⟩ := rebS hS (show _ ≤ T147.heap.size from (Nat.le_trans hk (Nat.le_trans Kq140.1 Kq147.1))) X155 s155 gr155 hZ hown
  have hk : T155.heap.size ≤ T155.heap.size := Nat.le_refl _
  obtain ⟨x_155, t_155, rfl, Nq155, Kq155, r155_0⟩ := hQ155
  have N155 := Fr.app N147 Nq155
  have C157 := CHr.trans C151 c155
  obtain ⟨sE158, sV158, sC158, ⟨kb158, sK158⟩, sb158, sl158⟩ := id r155_0
  have O159 : Old Z n0 T155.heap := (O152.keep Kq155 all0)
  have f160 : SBl Z T155.heap b101 t_108 16 ((((([] : List Int32) ++ ([(106 : Int32), (97 : Int32), (118 : Int32), (97 : Int32), (58 : Int32), (97 : Int32), (112 : Int32), (112 : Int32), (47 : Int32)] : List Int32)) ++ cm) ++ ([(47 : Int32)] : List Int32)) ++ cb) := (r147_0.keep Kq155 nin0 nin0)
  have f161 : Exa Z T155.heap b101 c4_ := ((f148.keep Kq147).keep Kq155)
  have ne_x_155_b101 : x_155 ≠ b101 := ne_exa sE158 f161 (by decide)
  have ne_b101_t_155 : b101 ≠ t_155 := Exa.neArv f161 sK158 (wd113 hw)
  obtain ⟨cq162, kq162, q162a, q162b, q162c⟩ := isOf hZ rfl f161
  obtain ⟨v162, _, ⟨T162, L162, k162, n162⟩, -, X162, ⟨Lc162, hQ162, l162, y162, z162⟩, st162⟩ := X155.virtualBack hx (y := mn19) (z := mn19) hown (mvT hZ (wd131 hw)) (mvT hZ (wd132 hw)) (notFace_of_selects (args := #[]) (mvT hZ (wd134 hw))) (mvT hZ (wd134 hw)) (mvT hZ (wd133 hw)) (by decide) (backOf (W := 0) (rm_sapA la Z a0 hw [] b101 x_155 t_108 t_155 16 ((((([] : List Int32) ++ ([(106 : Int32), (97 : Int32), (118 : Int32), (97 : Int32), (58 : Int32), (97 : Int32), (112 : Int32), (112 : Int32), (47 : Int32)] : List Int32)) ++ cm) ++ ([(47 : Int32)] : List Int32)) ++ cb) (svF vw cv) zc T155.heap n0 O159 f160 r155_0 D0_ g_b101 g_t_108 ne_b101_t_108 ne_x_155_b101 (Ne.symm ne_b101_t_155) ((by have := own_sv_len (v := vw) hlv; simp only [List.length_append, List.length_cons, List.length_nil]; omega) : ((((([] : List Int32) ++ ([(106 : Int32), (97 : Int32), (118 : Int32), (97 : Int32), (58 : Int32), (97 : Int32), (112 : Int32), (112 : Int32), (47 : Int32)] : List Int32)) ++ cm) ++ ([(47 : Int32)] : List Int32)) ++ cb).length + (svF vw cv).length ≤ 120) ((by decide) : 16 ≤ 50) (hzc : ¬ (zc = (0 : Int32)))) hZ (wd135 hw) (wd114 hw) (by decide) (by decide)) q162a q162c (g := (mkF mi 35 #[.val (.ref g)] [(.ref x_155), (.ref b101)])) rfl (by rw [hml]; rfl) (Steps.refl _) (argsL := [(.ref x_155)]) (rest := []) (lenOf pd_30 rfl) rfl (Nat.le_of_ble_eq_true rfl) (hb hby dj44_35) (fun _ _ => ⟨rfl, rfl, (by decide : 18 + 1 ≤ _), (by decide : 940 + 120 ≤ _)⟩)
  dsimp only [Pt.U, Pt.locs, Pt.cells, Pt.slots] at X162 l162 y162 z162 st162 hQ162
  subst l162 y162 z162
  obtain ⟨t2_162, cap2_162, rfl, Nq162, Kq162, r162_0⟩ := hQ162
  have N162 := Fr.app N155 Nq162
  have sf164 : Safe Z ELs _ T155.heap t_108 := (c155.safe (Nat.lt_of_lt_of_le r108_0.ltt (Nat.le_trans (Nat.le_trans (Nat.le_trans (Nat.le_trans (Nat.le_trans E112.1 Kq120.1) Kq127.1) E132.1) Kq140.1) Kq147.1)) (c149.safe (Nat.lt_of_lt_of_le r108_0.ltt (Nat.le_trans (Nat.le_trans (Nat.le_trans (Nat.le_trans E112.1 Kq120.1) Kq127.1) E132.1) Kq140.1)) sf150))
  have c163 := CHr.keep Kq162 (sfS (Safe.exa hZ.alike f161 (by decide) (by decide)) (sfS sf164 sf0)) C157.1
  have C165 := CHr.trans C157 c163
  have O166 : Old Z n0 T162.heap := (O159.keep Kq162 (allS g_b101 (allS g_t_108 all0)))
  have f168 : Exa Z T162.heap b101 c4_ := (f161.keep Kq162)
  obtain ⟨cq167, kq167, q167a, q167b, q167c⟩ := isOf hZ rfl f168
  obtain ⟨v167, _, ⟨T167, L167, k167, n167⟩, -, X167, ⟨Lc167, hQ167, l167, y167, z167⟩, st167⟩ := X162.virtualBack hx (y := mn29) (z := mn29) hown (mvT hZ (wd178 hw)) (mvT hZ (wd179 hw)) (notFace_of_selects (args := #[]) (mvT hZ (wd181 hw))) (mvT hZ (wd181 hw)) (mvT hZ (wd180 hw)) (by decide) (backOf (W := 0) (rm_sbtA la Z a0 hw [] b101 t2_162 cap2_162 (((((([] : List Int32) ++ ([(106 : Int32), (97 : Int32), (118 : Int32), (97 : Int32), (58 : Int32), (97 : Int32), (112 : Int32), (112 : Int32), (47 : Int32)] : List Int32)) ++ cm) ++ ([(47 : Int32)] : List Int32)) ++ cb) ++ (svF vw cv)) zc T162.heap n0 O166 r162_0 D0_ (hzc : ¬ (zc = (0 : Int32)))) hZ (wd182 hw) (wd114 hw) (by decide) (by decide)) q167a q167c (g := (mkF mi 38 #[.val (.ref g)] [(.ref b101)])) rfl (by rw [hml]; rfl) (Steps.refl _) (argsL := []) (rest := []) (lenOf pd_24 rfl) rfl (Nat.le_of_ble_eq_true rfl) (hb hby dj44_38) (fun _ _ => ⟨rfl, rfl, (by decide : 19 + 2 ≤ _), (by decide : 1060 + 124 ≤ _)⟩)
  dsimp only [Pt.U, Pt.locs, Pt.cells, Pt.slots] at X167 l167 y167 z167 st167 hQ167
  subst l167 y167 z167
  obtain ⟨x_167, r_167, rfl, Nq167, Kq167, fr_x_167, fr_r_167, r167_0⟩ := hQ167
  have N167 := Fr.app N162 Nq167
  have c169 := CHr.keep Kq167 sf0 C165.1
  have C170 := CHr.trans C165 c169
  obtain ⟨fs, hr, hrun, hended, hWe⟩ := X167.leaveW hS (show _ ≤ T167.heap.size from (Nat.le_trans hk (Nat.le_trans Kq162.1 Kq167.1))) (v := some (.ref x_167)) (fun hq => by rw [Bd.returns] at hq; cases hq)
  refine ⟨_, _, pre0 _ ?_, hrun, hended, _, _, rfl, ?_, ?_, hWe.1, hWe.2.1, hWe.2.2.1, hWe.2.2.2.mono (by decide) (by decide)⟩
  · show SP pg ev below (s₁.setTop (mkF mi 0 #[.val (.ref g)] [])) _
    refine st101 _ ?_
    refine XS.dup X101.here hx rfl (hb hby dj44_3) rfl rfl ?_
    refine st108.trans ?_
    refine st112 _ ?_
    refine st120.trans ?_
    refine XS.aloadN X120.here hx rfl (hb hby dj44_12) rfl rfl ?_
    refine st124 _ ?_
    refine st127.trans ?_
    refine st132 _ ?_
    refine st140.trans ?_
    refine XS.aloadN X140.here hx rfl (hb hby dj44_24) rfl rfl ?_
    refine st144 _ ?_
    refine st147.trans ?_
    refine XS.aloadN X147.here hx rfl (hb hby dj44_31) rfl rfl ?_
    refine st155.trans ?_
    refine st162.trans ?_
    refine st167.trans ?_
    show SP pg ev below (T167.setTop (mkF mi 41 #[.val (.ref g)] [(.ref x_167)])) _
    jvm_step X167.here [X167.here.top, hx, (hb hby dj44_41), X167.method', Bd.returns, Value.isRef, FieldType.isReference]
    first | (intro acts; rw [hr _ acts rfl rfl rfl]) | rw [hr _ _ rfl rfl rfl]
    exact Steps.refl _
  · show Q_iaX Z g m tm cm b tb cb vw cv zc hE n0 _ T167.heap _
    exact ⟨x_167, r_167, rfl, N167, ((((((((((((Keep.refl hE []).ext E101).trans Kq108 (allS (Or.inr (Nat.le_of_eq q101.symm)) all0)).ext E112).trans Kq120 (allS (Or.inr (Nat.le_of_eq q101.symm)) (allS (Or.inr (Nat.le_trans E101.1 fr_t_108)) all0))).trans Kq127 (allS (Or.inr (Nat.le_of_eq q101.symm)) (allS (Or.inr (Nat.le_trans E101.1 fr_t_108)) all0))).ext E132).trans Kq140 (allS (Or.inr (Nat.le_of_eq q101.symm)) (allS (Or.inr (Nat.le_trans E101.1 fr_t_108)) all0))).trans Kq147 (allS (Or.inr (Nat.le_of_eq q101.symm)) (allS (Or.inr (Nat.le_trans E101.1 fr_t_108)) all0))).trans Kq155 all0).trans Kq162 (allS (Or.inr (Nat.le_of_eq q101.symm)) (allS (Or.inr (Nat.le_trans E101.1 fr_t_108)) all0))).trans Kq167 all0), (Nat.le_trans (Nat.le_trans (Nat.le_trans (Nat.le_trans (Nat.le_trans (Nat.le_trans (Nat.le_trans (Nat.le_trans (Nat.le_trans (Nat.le_trans E101.1 Kq108.1) E112.1) Kq120.1) Kq127.1) E132.1) Kq140.1) Kq147.1) Kq155.1) Kq162.1) fr_x_167), (Nat.le_trans (Nat.le_trans (Nat.le_trans (Nat.le_trans (Nat.le_trans (Nat.le_trans (Nat.le_trans (Nat.le_trans (Nat.le_trans (Nat.le_trans E101.1 Kq108.1) E112.1) Kq120.1) Kq127.1) E132.1) Kq140.1) Kq147.1) Kq155.1) Kq162.1) fr_r_167), r167_0⟩
  · show CHr Z ELs sb.vm sb.heap T167.vm T167.heap
    rw [hh]
    exact CHr.trans C170 (CHv.at X167 hZ hEL C170.1)
theorem own_bd0 : ∀ c ∈ ([] : List Int32), ¬ c < 0 ∧ ¬ (255 : Int32) < c := fun _ h => nomatch h
theorem own_bdC {a : Int32} {l : List Int32} (h : ¬ a < 0 ∧ ¬ (255 : Int32) < a) (t : ∀ c ∈ l, ¬ c < 0 ∧ ¬ (255 : Int32) < c) : ∀ c ∈ a :: l, ¬ c < 0 ∧ ¬ (255 : Int32) < c := fun c hc => by
  rcases List.mem_cons.mp hc with rfl | q
  · exact h
  · exact t c q
theorem own_a1 {p : Int32 → Prop} {a : Int32} (h : p a) : ∀ c ∈ ([a] : List Int32), p c := fun c hc => by cases List.mem_singleton.mp hc; exact h
theorem own_a2 {p : Int32 → Prop} {a b : Int32} (h : p a) (k : p b) : ∀ c ∈ ([a, b] : List Int32), p c := fun c hc => by
  rcases List.mem_cons.mp hc with rfl | q
  · exact h
  · exact own_a1 k c q
def COk (c : Int32) : Prop := ¬ (c < (0 : Int32)) ∧ ¬ ((255 : Int32) < c) ∧ ¬ (c = (47 : Int32)) ∧ ¬ (c = (33 : Int32))
theorem COk.bd {c : Int32} (h : COk c) : ¬ c < 0 ∧ ¬ (255 : Int32) < c := ⟨h.1, h.2.1⟩
theorem COk.s47 {c : Int32} (h : COk c) : ¬ (c.toInt8.toInt32 = (47 : Int32)) := own_ch_byte h.1 h.2.1 (by decide) h.2.2.1
theorem COk.s33 {c : Int32} (h : COk c) : ¬ (c.toInt8.toInt32 = (33 : Int32)) := own_ch_byte h.1 h.2.1 (by decide) h.2.2.2
theorem own_c48 : COk 48 := by unfold COk; decide
theorem own_cok (q : Int32) : COk (chF q) := own_chB q
def OKs (cs : List Int32) : Prop := cs.length ≠ 0 ∧ cs.length ≤ 2 ∧ (∀ c ∈ cs, ¬ ((c.toInt8.toInt32) = (47 : Int32))) ∧ (∀ c ∈ cs, ¬ ((c.toInt8.toInt32) = (33 : Int32)))
theorem OKs1 {c : Int32} (h : COk c) : OKs [c] := ⟨by simp, by simp, own_a1 h.s47, own_a1 h.s33⟩
theorem OKs2 {c d : Int32} (h : COk c) (k : COk d) : OKs [c, d] := ⟨by simp, by simp, own_a2 h.s47 k.s47, own_a2 h.s33 k.s33⟩
def MM (f c d : Int32) (cs : List Int32) : Prop := (f = (0 : Int32) ∧ cs = [c]) ∨ (¬ (f = (0 : Int32)) ∧ cs = [c, d])
def VV (f c d : Int32) (v : Value) (cs : List Int32) : Prop := (f = (0 : Int32) ∧ v = .null) ∨ (¬ (f = (0 : Int32)) ∧ ∃ a : Addr, v = .ref a ∧ ((f = (1 : Int32) ∧ cs = [c]) ∨ (¬ (f = (1 : Int32)) ∧ cs = [c, d])))
theorem own_rem3 (y : Int32) : (y &&& (3 : Int32)) % (3 : Int32) = 0 ∨ (y &&& (3 : Int32)) % (3 : Int32) = 1 ∨ (y &&& (3 : Int32)) % (3 : Int32) = 2 := by
  have e := Jvm.Kit.i32_mask y 3 (k := 2) (by decide) (by decide)
  have h1 := Int.emod_nonneg y.toInt (show (2 : Int) ^ 2 ≠ 0 by decide)
  have h2 := Int.emod_lt_of_pos y.toInt (show (0 : Int) < 2 ^ 2 by decide)
  generalize y &&& (3 : Int32) = z at e ⊢
  have h3 : z.toInt = 0 ∨ z.toInt = 1 ∨ z.toInt = 2 ∨ z.toInt = 3 := by omega
  rcases h3 with h | h | h | h
  · obtain rfl : z = 0 := Int32.toInt_inj.mp h
    decide
  · obtain rfl : z = 1 := Int32.toInt_inj.mp h
    decide
  · obtain rfl : z = 2 := Int32.toInt_inj.mp h
    decide
  · obtain rfl : z = 3 := Int32.toInt_inj.mp h
    decide
def JAl : List Int32 := ([(106 : Int32), (97 : Int32), (118 : Int32), (97 : Int32), (58 : Int32), (97 : Int32), (112 : Int32), (112 : Int32), (47 : Int32)] : List Int32)
theorem own_JA (r : List Int32) : 9 ≤ (([(106 : Int32), (97 : Int32), (118 : Int32), (97 : Int32), (58 : Int32), (97 : Int32), (112 : Int32), (112 : Int32), (47 : Int32)] : List Int32) ++ r).length := by simp
theorem own_ix1 {n : Int32} {k : Nat} (h : n = Int32.ofNat k) : n + (1 : Int32) = Int32.ofNat (k + 1) := by rw [h]; exact own_add32 k 1
theorem own_ix2 {n : Int32} {k : Nat} (h : n = Int32.ofNat k) : n + (2 : Int32) = Int32.ofNat (k + 2) := by rw [h]; exact own_add32 k 2
theorem pd_31 : parseMethodDescriptor "(C)Ljava/lang/String;" = some ⟨[.char], some (.object "java/lang/String")⟩ := by decide +kernel
theorem pd_32 : parseMethodDescriptor "([C)V" = some ⟨[(.array .char)], none⟩ := by decide +kernel
theorem sw_mod {la : Launch} {Z : State} {a0 : Array Value} (hw : HW a0 Z) (cc dd ff zc : Int32) (s0 s1 s2 s3 s7 s8 s9 s10 s11 s12 s14 s15 s16 s17 s18 s19 s20 s21 s22 s23 s24 : Slot) (hE : Heap) (n0 : Nat) {pg : Program} {ev : Env} {sb : State} {mi : MethodId} {aa : Array Value} {below : List Frame} {me : Method} {cd : Code} {s₁ : State} {ls : List Loc} (X0 : Stand pg la ev room_1 sb mi aa below me cd s₁ ls 0 0) (hx : pg.tables.exec = Jvm.exec) (hby : cd.code = code) (hml : cd.maxLocals = 25) (hZ : Z.Warmed39 sb.vm) (hown : sb.vm.findClass c3_ = some mi.cls) (eE : s₁.heap = hE) (N0 : Fr n0 ls) (O : Old Z n0 hE) (D0_ : Sta Z Z.heap c1_ c5_ "Z" (.int zc)) (occ : COk cc) (odd : COk dd) (hzc : ¬ (zc = (0 : Int32))) :
    ∃ (T' : State) (h' : Heap) (L' : List Loc) (x : Addr) (t : Addr) (cl : List Int32), Stand pg la ev room_1 sb mi aa below me cd T' L' (3) (16) ∧ T'.heap = h' ∧ Fr n0 L' ∧ Keep hE h' [] ∧ hE.size ≤ x ∧ hE.size ≤ t ∧ LStr Z h' x t cl ∧ (MM ff cc dd cl) ∧ (OKs cl) ∧ ∀ tt, SP pg ev below (T'.setTop (mkF mi 122 #[s0, s1, s2, s3, .val (.int cc), .val (.int dd), .val (.int ff), s7, s8, s9, s10, s11, s12, .val (.ref x), s14, s15, s16, s17, s18, s19, s20, s21, s22, s23, s24] [])) tt → SP pg ev below (s₁.setTop (mkF mi 87 #[s0, s1, s2, s3, .val (.int cc), .val (.int dd), .val (.int ff), s7, s8, s9, s10, s11, s12, .unset, s14, s15, s16, s17, s18, s19, s20, s21, s22, s23, s24] [])) tt := by
  have pre0 : ∀ tt, SP pg ev below (s₁.setTop (mkF mi 87 #[s0, s1, s2, s3, .val (.int cc), .val (.int dd), .val (.int ff), s7, s8, s9, s10, s11, s12, .unset, s14, s15, s16, s17, s18, s19, s20, s21, s22, s23, s24] [])) tt → SP pg ev below (s₁.setTop (mkF mi 87 #[s0, s1, s2, s3, .val (.int cc), .val (.int dd), .val (.int ff), s7, s8, s9, s10, s11, s12, .unset, s14, s15, s16, s17, s18, s19, s20, s21, s22, s23, s24] [])) tt := fun tt kk => kk
  have pre102 : ∀ tt, SP pg ev below (s₁.setTop (mkF mi 89 #[s0, s1, s2, s3, .val (.int cc), .val (.int dd), .val (.int ff), s7, s8, s9, s10, s11, s12, .unset, s14, s15, s16, s17, s18, s19, s20, s21, s22, s23, s24] [(.int ff)])) tt → SP pg ev below (s₁.setTop (mkF mi 87 #[s0, s1, s2, s3, .val (.int cc), .val (.int dd), .val (.int ff), s7, s8, s9, s10, s11, s12, .unset, s14, s15, s16, s17, s18, s19, s20, s21, s22, s23, s24] [])) tt := fun tt kk => pre0 _ (by
    show SP pg ev below (s₁.setTop (mkF mi 87 #[s0, s1, s2, s3, .val (.int cc), .val (.int dd), .val (.int ff), s7, s8, s9, s10, s11, s12, .unset, s14, s15, s16, s17, s18, s19, s20, s21, s22, s23, s24] [])) _
    refine XS.iload X0.here hx rfl (hb hby at_87) rfl ?_
    exact kk)
  by_cases hc101 : ff = (0 : Int32)
  · obtain ⟨v103, _, ⟨T103, L103, k103, n103⟩, -, X103, ⟨Lc103, hQ103, l103, y103, z103⟩, st103⟩ := Jvm.LawKit.callS X0 hx (y := mn34) hown (mvT hZ (wd4 hw)) (mvT hZ (wd5 hw)) (mvT hZ (wd6 hw)) (mvT hZ (wd7 hw)) (by decide) (backOf (W := 0) (rm_vof la Z a0 hw [] cc zc hE n0 O D0_ (occ.2.1 : ¬ ((255 : Int32) < cc)) (occ.1 : ¬ (cc < (0 : Int32))) (hzc : ¬ (zc = (0 : Int32)))) hZ (wd7 hw) (wd6 hw) (by decide) (by decide)) (g := (mkF mi 117 #[s0, s1, s2, s3, .val (.int cc), .val (.int dd), .val (.int ff), s7, s8, s9, s10, s11, s12, .unset, s14, s15, s16, s17, s18, s19, s20, s21, s22, s23, s24] [(.int cc)])) rfl (by rw [hml]; rfl) (argsL := [(.int cc)]) (rest := []) (lenOf pd_31 rfl) rfl (Nat.le_of_ble_eq_true rfl) (hb hby at_117) (fun _ _ => ⟨rfl, eE, (by decide : 0 + 2 ≤ _), (by decide : 0 + 5 ≤ _)⟩)
    dsimp only [Pt.U, Pt.locs, Pt.cells, Pt.slots] at X103 l103 y103 z103 st103 hQ103
    subst l103 y103 z103
    obtain ⟨x_103, t_103, rfl, Nq103, Kq103, fr_x_103, fr_t_103, r103_0⟩ := hQ103
    have N103 := Fr.app N0 Nq103
    have pre104 : ∀ tt, SP pg ev below (T103.setTop (mkF mi 122 #[s0, s1, s2, s3, .val (.int cc), .val (.int dd), .val (.int ff), s7, s8, s9, s10, s11, s12, .val (.ref x_103), s14, s15, s16, s17, s18, s19, s20, s21, s22, s23, s24] [])) tt → SP pg ev below (s₁.setTop (mkF mi 87 #[s0, s1, s2, s3, .val (.int cc), .val (.int dd), .val (.int ff), s7, s8, s9, s10, s11, s12, .unset, s14, s15, s16, s17, s18, s19, s20, s21, s22, s23, s24] [])) tt := fun tt kk => pre102 _ (by
      show SP pg ev below (s₁.setTop (mkF mi 89 #[s0, s1, s2, s3, .val (.int cc), .val (.int dd), .val (.int ff), s7, s8, s9, s10, s11, s12, .unset, s14, s15, s16, s17, s18, s19, s20, s21, s22, s23, s24] [(.int ff)])) _
      refine XS.ifYes X0.here hx rfl (pc0 := 89) (pc' := 115) rfl (hb hby at_89) rfl ((if0 _ _).trans (teq hc101).1) (by decide) (by decide) ?_
      refine XS.iload X0.here hx rfl (hb hby at_115) rfl ?_
      refine st103 _ ?_
      refine XS.astore X103.here hx rfl (hb hby at_120) rfl rfl (l' := #[s0, s1, s2, s3, .val (.int cc), .val (.int dd), .val (.int ff), s7, s8, s9, s10, s11, s12, .val (.ref x_103), s14, s15, s16, s17, s18, s19, s20, s21, s22, s23, s24]) rfl ?_
      exact kk)
    exact ⟨_, _, _, x_103, t_103, ([cc] : List Int32), X103.more (by decide) (by decide), rfl, N103, ((Keep.refl hE []).trans Kq103 all0), fr_x_103, fr_t_103, r103_0, Or.inl ⟨hc101, rfl⟩, OKs1 occ, fun tt kk => pre104 tt kk⟩
  · obtain ⟨T105, h105, X105, e105, E105, A105, D105, -, st105⟩ := newO X0 hx hZ hown (wd243 hw) (wd14 hw) (wd6 hw) eE (g := (mkF mi 92 #[s0, s1, s2, s3, .val (.int cc), .val (.int dd), .val (.int ff), s7, s8, s9, s10, s11, s12, .unset, s14, s15, s16, s17, s18, s19, s20, s21, s22, s23, s24] [])) rfl (hb hby at_92) (by decide) (by decide)
    obtain ⟨b105, q105⟩ : ∃ z, z = hE.size := ⟨_, rfl⟩
    rw [← q105] at A105 D105 st105
    have f106 : Fld Z h105 b105 c1_ "value" "[B" .null := D105 (Or.inr (wd27 hw)) (ty := (.array .byte)) (by decide)
    have f107 : Fld Z h105 b105 c1_ "coder" "B" (.int 0) := D105 (Or.inr (wd29 hw)) (ty := .byte) (by decide)
    obtain ⟨T108, h108, k108, X108, e108, E108, A108, st108⟩ := newP (aty := .char) X105 hx hZ (wd244 hw) e105 (g := (mkF mi 97 #[s0, s1, s2, s3, .val (.int cc), .val (.int dd), .val (.int ff), s7, s8, s9, s10, s11, s12, .unset, s14, s15, s16, s17, s18, s19, s20, s21, s22, s23, s24] [(.int 2), (.ref b105), (.ref b105)])) rfl (hb hby at_97) rfl (by decide) (cap := 2) (by decide) (by decide) (by decide) (by decide)
    obtain ⟨b108, q108⟩ : ∃ z, z = h105.size := ⟨_, rfl⟩
    rw [← q108] at A108 st108
    have f109 : Arv Z h108 b108 k108 .char (2 : Int32) [(.int 0), (.int 0)] (.int 0) := (Arv.new A108 (by decide)).pad (pad_rep [] (.int 0) 2)
    have O111 : Old Z n0 h105 := (O.ext E105)
    have g_b108 : n0 ≤ b108 := Nat.le_trans (Nat.le_trans (Nat.le_of_eq O111.1.symm) O111.2.1) (Nat.le_of_eq q108.symm)
    obtain ⟨T110, h110, L110, X110, e110, N110, Kq110, f110, st110⟩ := own_sc X108 hx hZ e108 f109 0 (c := cc) (j := (0 : Int32)) (own_nar_c occ.bd) rfl (by decide) (Nat.le_of_ble_eq_true rfl) N0 g_b108 (g := (mkF mi 103 #[s0, s1, s2, s3, .val (.int cc), .val (.int dd), .val (.int ff), s7, s8, s9, s10, s11, s12, .unset, s14, s15, s16, s17, s18, s19, s20, s21, s22, s23, s24] [(.int cc), (.int 0), (.ref b108), (.ref b108), (.ref b105), (.ref b105)])) rfl rfl (hb hby at_103)
    obtain ⟨T112, h112, L112, X112, e112, N112, Kq112, f112, st112⟩ := own_sc X110 hx hZ e110 f110 1 (c := dd) (j := (1 : Int32)) (own_nar_c odd.bd) rfl (by decide) (Nat.le_of_ble_eq_true rfl) N110 g_b108 (g := (mkF mi 108 #[s0, s1, s2, s3, .val (.int cc), .val (.int dd), .val (.int ff), s7, s8, s9, s10, s11, s12, .unset, s14, s15, s16, s17, s18, s19, s20, s21, s22, s23, s24] [(.int dd), (.int 1), (.ref b108), (.ref b108), (.ref b105), (.ref b105)])) rfl rfl (hb hby at_108)
    have O113 : Old Z n0 h112 := (((O111.ext E108).keep Kq110 (allS g_b108 all0)).keep Kq112 (allS g_b108 all0))
    have f114 : Exa Z h112 b105 c1_ := (((A105.ext E108).keep Kq110).keep Kq112)
    have ne_b105_b108 : b105 ≠ b108 := Nat.ne_of_lt (Nat.lt_of_lt_of_le A105.lt (Nat.le_trans (Nat.le_refl _) (Nat.le_of_eq q108.symm)))
    have f115 : Fld Z h112 b105 c1_ "value" "[B" .null := (((f106.ext E108).keep Kq110 (ninS ne_b105_b108 nin0)).keep Kq112 (ninS ne_b105_b108 nin0))
    have f116 : Fld Z h112 b105 c1_ "coder" "B" (.int 0) := (((f107.ext E108).keep Kq110 (ninS ne_b105_b108 nin0)).keep Kq112 (ninS ne_b105_b108 nin0))
    have g_b105 : n0 ≤ b105 := Nat.le_trans (Nat.le_trans (Nat.le_of_eq O.1.symm) O.2.1) (Nat.le_of_eq q105.symm)
    obtain ⟨v117, _, ⟨T117, L117, k117, n117⟩, -, X117, ⟨Lc117, hQ117, l117, y117, z117⟩, st117⟩ := X112.specialBack hx (y := mn48) rfl hown (mvT hZ (wd245 hw)) (mvT hZ (wd246 hw)) (mvT hZ (wd247 hw)) (by decide) (own_nsc (W := 1) hZ hw (wd14 hw) b105 b108 k108 ([cc, dd] : List Int32) zc h112 n0 O113 f114 f115 f116 f112 D0_ g_b105 (Nat.le_of_ble_eq_true rfl : 0 < ([cc, dd] : List Int32).length) (Nat.le_of_ble_eq_true rfl : ([cc, dd] : List Int32).length ≤ 4000) ((own_bdC occ.bd (own_bdC odd.bd own_bd0)) : ∀ c ∈ ([cc, dd] : List Int32), ¬ c < 0 ∧ ¬ (255 : Int32) < c) (hzc : ¬ (zc = (0 : Int32))) 2 rfl (by decide) (by decide)) (g := (mkF mi 109 #[s0, s1, s2, s3, .val (.int cc), .val (.int dd), .val (.int ff), s7, s8, s9, s10, s11, s12, .unset, s14, s15, s16, s17, s18, s19, s20, s21, s22, s23, s24] [(.ref b108), (.ref b105), (.ref b105)])) rfl (by rw [hml]; rfl) (Steps.refl _) (a := b105) (argsL := [(.ref b108)]) (rest := [(.ref b105)]) (lenOf pd_32 rfl) rfl (Nat.le_of_ble_eq_true rfl) (hb hby at_109) (fun _ _ => ⟨rfl, e112, (by decide : 2 + 1 ≤ _), (by decide : 6 + 2 ≤ _)⟩)
    dsimp only [Pt.U, Pt.locs, Pt.cells, Pt.slots] at X117 l117 y117 z117 st117 hQ117
    subst l117 y117 z117
    obtain ⟨t_117, rfl, Nq117, Kq117, fr_t_117, r117_0⟩ := hQ117
    have N117 := Fr.app N112 Nq117
    have pre118 : ∀ tt, SP pg ev below (T117.setTop (mkF mi 122 #[s0, s1, s2, s3, .val (.int cc), .val (.int dd), .val (.int ff), s7, s8, s9, s10, s11, s12, .val (.ref b105), s14, s15, s16, s17, s18, s19, s20, s21, s22, s23, s24] [])) tt → SP pg ev below (s₁.setTop (mkF mi 87 #[s0, s1, s2, s3, .val (.int cc), .val (.int dd), .val (.int ff), s7, s8, s9, s10, s11, s12, .unset, s14, s15, s16, s17, s18, s19, s20, s21, s22, s23, s24] [])) tt := fun tt kk => pre102 _ (by
      show SP pg ev below (s₁.setTop (mkF mi 89 #[s0, s1, s2, s3, .val (.int cc), .val (.int dd), .val (.int ff), s7, s8, s9, s10, s11, s12, .unset, s14, s15, s16, s17, s18, s19, s20, s21, s22, s23, s24] [(.int ff)])) _
      refine XS.ifNo X0.here hx rfl (hb hby at_89) rfl ((if0 _ _).trans (feq hc101).1) ?_
      refine st105 _ ?_
      refine XS.dup X105.here hx rfl (hb hby at_95) rfl rfl ?_
      refine XS.iconst X105.here hx rfl (hb hby at_96) ?_
      refine st108 _ ?_
      refine XS.dup X108.here hx rfl (hb hby at_99) rfl rfl ?_
      refine XS.iconst X108.here hx rfl (hb hby at_100) ?_
      refine XS.iload X108.here hx rfl (hb hby at_101) rfl ?_
      refine st110 _ ?_
      refine XS.dup X110.here hx rfl (hb hby at_104) rfl rfl ?_
      refine XS.iconst X110.here hx rfl (hb hby at_105) ?_
      refine XS.iload X110.here hx rfl (hb hby at_106) rfl ?_
      refine st112 _ ?_
      refine st117.trans ?_
      refine XS.goto X117.here hx rfl (pc0 := 112) (pc' := 120) rfl (hb hby at_112) (by decide) (by decide) ?_
      refine XS.astore X117.here hx rfl (hb hby at_120) rfl rfl (l' := #[s0, s1, s2, s3, .val (.int cc), .val (.int dd), .val (.int ff), s7, s8, s9, s10, s11, s12, .val (.ref b105), s14, s15, s16, s17, s18, s19, s20, s21, s22, s23, s24]) rfl ?_
      exact kk)
    exact ⟨_, _, _, b105, t_117, ([cc, dd] : List Int32), X117.more (by decide) (by decide), rfl, N117, ((((((Keep.refl hE []).ext E105).ext E108).trans Kq110 (allS (Or.inr (Nat.le_trans E105.1 (Nat.le_of_eq q108.symm))) all0)).trans Kq112 (allS (Or.inr (Nat.le_trans E105.1 (Nat.le_of_eq q108.symm))) all0)).trans Kq117 (allS (Or.inr (Nat.le_of_eq q105.symm)) all0)), (Nat.le_of_eq q105.symm), (Nat.le_trans (Nat.le_trans (Nat.le_trans (Nat.le_trans E105.1 E108.1) Kq110.1) Kq112.1) fr_t_117), r117_0, Or.inr ⟨hc101, rfl⟩, OKs2 occ odd, fun tt kk => pre118 tt kk⟩
theorem sw_bean {la : Launch} {Z : State} {a0 : Array Value} (hw : HW a0 Z) (cc dd ff zc : Int32) (s0 s1 s2 s3 s4 s5 s6 s10 s11 s12 s13 s15 s16 s17 s18 s19 s20 s21 s22 s23 s24 : Slot) (hE : Heap) (n0 : Nat) {pg : Program} {ev : Env} {sb : State} {mi : MethodId} {aa : Array Value} {below : List Frame} {me : Method} {cd : Code} {s₁ : State} {ls : List Loc} (X0 : Stand pg la ev room_1 sb mi aa below me cd s₁ ls 3 16) (hx : pg.tables.exec = Jvm.exec) (hby : cd.code = code) (hml : cd.maxLocals = 25) (hZ : Z.Warmed39 sb.vm) (hown : sb.vm.findClass c3_ = some mi.cls) (eE : s₁.heap = hE) (N0 : Fr n0 ls) (O : Old Z n0 hE) (D0_ : Sta Z Z.heap c1_ c5_ "Z" (.int zc)) (occ : COk cc) (odd : COk dd) (hzc : ¬ (zc = (0 : Int32))) :
    ∃ (T' : State) (h' : Heap) (L' : List Loc) (x : Addr) (t : Addr) (cl : List Int32), Stand pg la ev room_1 sb mi aa below me cd T' L' (6) (32) ∧ T'.heap = h' ∧ Fr n0 L' ∧ Keep hE h' [] ∧ hE.size ≤ x ∧ hE.size ≤ t ∧ LStr Z h' x t cl ∧ (MM ff cc dd cl) ∧ (OKs cl) ∧ ∀ tt, SP pg ev below (T'.setTop (mkF mi 157 #[s0, s1, s2, s3, s4, s5, s6, .val (.int cc), .val (.int dd), .val (.int ff), s10, s11, s12, s13, .val (.ref x), s15, s16, s17, s18, s19, s20, s21, s22, s23, s24] [])) tt → SP pg ev below (s₁.setTop (mkF mi 122 #[s0, s1, s2, s3, s4, s5, s6, .val (.int cc), .val (.int dd), .val (.int ff), s10, s11, s12, s13, .unset, s15, s16, s17, s18, s19, s20, s21, s22, s23, s24] [])) tt := by
  have pre0 : ∀ tt, SP pg ev below (s₁.setTop (mkF mi 122 #[s0, s1, s2, s3, s4, s5, s6, .val (.int cc), .val (.int dd), .val (.int ff), s10, s11, s12, s13, .unset, s15, s16, s17, s18, s19, s20, s21, s22, s23, s24] [])) tt → SP pg ev below (s₁.setTop (mkF mi 122 #[s0, s1, s2, s3, s4, s5, s6, .val (.int cc), .val (.int dd), .val (.int ff), s10, s11, s12, s13, .unset, s15, s16, s17, s18, s19, s20, s21, s22, s23, s24] [])) tt := fun tt kk => kk
  have pre102 : ∀ tt, SP pg ev below (s₁.setTop (mkF mi 124 #[s0, s1, s2, s3, s4, s5, s6, .val (.int cc), .val (.int dd), .val (.int ff), s10, s11, s12, s13, .unset, s15, s16, s17, s18, s19, s20, s21, s22, s23, s24] [(.int ff)])) tt → SP pg ev below (s₁.setTop (mkF mi 122 #[s0, s1, s2, s3, s4, s5, s6, .val (.int cc), .val (.int dd), .val (.int ff), s10, s11, s12, s13, .unset, s15, s16, s17, s18, s19, s20, s21, s22, s23, s24] [])) tt := fun tt kk => pre0 _ (by
    show SP pg ev below (s₁.setTop (mkF mi 122 #[s0, s1, s2, s3, s4, s5, s6, .val (.int cc), .val (.int dd), .val (.int ff), s10, s11, s12, s13, .unset, s15, s16, s17, s18, s19, s20, s21, s22, s23, s24] [])) _
    refine XS.iload X0.here hx rfl (hb hby at_122) rfl ?_
    exact kk)
  by_cases hc101 : ff = (0 : Int32)
  · obtain ⟨v103, _, ⟨T103, L103, k103, n103⟩, -, X103, ⟨Lc103, hQ103, l103, y103, z103⟩, st103⟩ := Jvm.LawKit.callS X0 hx (y := mn34) hown (mvT hZ (wd4 hw)) (mvT hZ (wd5 hw)) (mvT hZ (wd6 hw)) (mvT hZ (wd7 hw)) (by decide) (backOf (W := 0) (rm_vof la Z a0 hw [] cc zc hE n0 O D0_ (occ.2.1 : ¬ ((255 : Int32) < cc)) (occ.1 : ¬ (cc < (0 : Int32))) (hzc : ¬ (zc = (0 : Int32)))) hZ (wd7 hw) (wd6 hw) (by decide) (by decide)) (g := (mkF mi 152 #[s0, s1, s2, s3, s4, s5, s6, .val (.int cc), .val (.int dd), .val (.int ff), s10, s11, s12, s13, .unset, s15, s16, s17, s18, s19, s20, s21, s22, s23, s24] [(.int cc)])) rfl (by rw [hml]; rfl) (argsL := [(.int cc)]) (rest := []) (lenOf pd_31 rfl) rfl (Nat.le_of_ble_eq_true rfl) (hb hby at_152) (fun _ _ => ⟨rfl, eE, (by decide : 3 + 2 ≤ _), (by decide : 16 + 5 ≤ _)⟩)
    dsimp only [Pt.U, Pt.locs, Pt.cells, Pt.slots] at X103 l103 y103 z103 st103 hQ103
    subst l103 y103 z103
    obtain ⟨x_103, t_103, rfl, Nq103, Kq103, fr_x_103, fr_t_103, r103_0⟩ := hQ103
    have N103 := Fr.app N0 Nq103
    have pre104 : ∀ tt, SP pg ev below (T103.setTop (mkF mi 157 #[s0, s1, s2, s3, s4, s5, s6, .val (.int cc), .val (.int dd), .val (.int ff), s10, s11, s12, s13, .val (.ref x_103), s15, s16, s17, s18, s19, s20, s21, s22, s23, s24] [])) tt → SP pg ev below (s₁.setTop (mkF mi 122 #[s0, s1, s2, s3, s4, s5, s6, .val (.int cc), .val (.int dd), .val (.int ff), s10, s11, s12, s13, .unset, s15, s16, s17, s18, s19, s20, s21, s22, s23, s24] [])) tt := fun tt kk => pre102 _ (by
      show SP pg ev below (s₁.setTop (mkF mi 124 #[s0, s1, s2, s3, s4, s5, s6, .val (.int cc), .val (.int dd), .val (.int ff), s10, s11, s12, s13, .unset, s15, s16, s17, s18, s19, s20, s21, s22, s23, s24] [(.int ff)])) _
      refine XS.ifYes X0.here hx rfl (pc0 := 124) (pc' := 150) rfl (hb hby at_124) rfl ((if0 _ _).trans (teq hc101).1) (by decide) (by decide) ?_
      refine XS.iload X0.here hx rfl (hb hby at_150) rfl ?_
      refine st103 _ ?_
      refine XS.astore X103.here hx rfl (hb hby at_155) rfl rfl (l' := #[s0, s1, s2, s3, s4, s5, s6, .val (.int cc), .val (.int dd), .val (.int ff), s10, s11, s12, s13, .val (.ref x_103), s15, s16, s17, s18, s19, s20, s21, s22, s23, s24]) rfl ?_
      exact kk)
    exact ⟨_, _, _, x_103, t_103, ([cc] : List Int32), X103.more (by decide) (by decide), rfl, N103, ((Keep.refl hE []).trans Kq103 all0), fr_x_103, fr_t_103, r103_0, Or.inl ⟨hc101, rfl⟩, OKs1 occ, fun tt kk => pre104 tt kk⟩
  · obtain ⟨T105, h105, X105, e105, E105, A105, D105, -, st105⟩ := newO X0 hx hZ hown (wd243 hw) (wd14 hw) (wd6 hw) eE (g := (mkF mi 127 #[s0, s1, s2, s3, s4, s5, s6, .val (.int cc), .val (.int dd), .val (.int ff), s10, s11, s12, s13, .unset, s15, s16, s17, s18, s19, s20, s21, s22, s23, s24] [])) rfl (hb hby at_127) (by decide) (by decide)
    obtain ⟨b105, q105⟩ : ∃ z, z = hE.size := ⟨_, rfl⟩
    rw [← q105] at A105 D105 st105
    have f106 : Fld Z h105 b105 c1_ "value" "[B" .null := D105 (Or.inr (wd27 hw)) (ty := (.array .byte)) (by decide)
    have f107 : Fld Z h105 b105 c1_ "coder" "B" (.int 0) := D105 (Or.inr (wd29 hw)) (ty := .byte) (by decide)
    obtain ⟨T108, h108, k108, X108, e108, E108, A108, st108⟩ := newP (aty := .char) X105 hx hZ (wd244 hw) e105 (g := (mkF mi 132 #[s0, s1, s2, s3, s4, s5, s6, .val (.int cc), .val (.int dd), .val (.int ff), s10, s11, s12, s13, .unset, s15, s16, s17, s18, s19, s20, s21, s22, s23, s24] [(.int 2), (.ref b105), (.ref b105)])) rfl (hb hby at_132) rfl (by decide) (cap := 2) (by decide) (by decide) (by decide) (by decide)
    obtain ⟨b108, q108⟩ : ∃ z, z = h105.size := ⟨_, rfl⟩
    rw [← q108] at A108 st108
    have f109 : Arv Z h108 b108 k108 .char (2 : Int32) [(.int 0), (.int 0)] (.int 0) := (Arv.new A108 (by decide)).pad (pad_rep [] (.int 0) 2)
    have O111 : Old Z n0 h105 := (O.ext E105)
    have g_b108 : n0 ≤ b108 := Nat.le_trans (Nat.le_trans (Nat.le_of_eq O111.1.symm) O111.2.1) (Nat.le_of_eq q108.symm)
    obtain ⟨T110, h110, L110, X110, e110, N110, Kq110, f110, st110⟩ := own_sc X108 hx hZ e108 f109 0 (c := cc) (j := (0 : Int32)) (own_nar_c occ.bd) rfl (by decide) (Nat.le_of_ble_eq_true rfl) N0 g_b108 (g := (mkF mi 138 #[s0, s1, s2, s3, s4, s5, s6, .val (.int cc), .val (.int dd), .val (.int ff), s10, s11, s12, s13, .unset, s15, s16, s17, s18, s19, s20, s21, s22, s23, s24] [(.int cc), (.int 0), (.ref b108), (.ref b108), (.ref b105), (.ref b105)])) rfl rfl (hb hby at_138)
    obtain ⟨T112, h112, L112, X112, e112, N112, Kq112, f112, st112⟩ := own_sc X110 hx hZ e110 f110 1 (c := dd) (j := (1 : Int32)) (own_nar_c odd.bd) rfl (by decide) (Nat.le_of_ble_eq_true rfl) N110 g_b108 (g := (mkF mi 143 #[s0, s1, s2, s3, s4, s5, s6, .val (.int cc), .val (.int dd), .val (.int ff), s10, s11, s12, s13, .unset, s15, s16, s17, s18, s19, s20, s21, s22, s23, s24] [(.int dd), (.int 1), (.ref b108), (.ref b108), (.ref b105), (.ref b105)])) rfl rfl (hb hby at_143)
    have O113 : Old Z n0 h112 := (((O111.ext E108).keep Kq110 (allS g_b108 all0)).keep Kq112 (allS g_b108 all0))
    have f114 : Exa Z h112 b105 c1_ := (((A105.ext E108).keep Kq110).keep Kq112)
    have ne_b105_b108 : b105 ≠ b108 := Nat.ne_of_lt (Nat.lt_of_lt_of_le A105.lt (Nat.le_trans (Nat.le_refl _) (Nat.le_of_eq q108.symm)))
    have f115 : Fld Z h112 b105 c1_ "value" "[B" .null := (((f106.ext E108).keep Kq110 (ninS ne_b105_b108 nin0)).keep Kq112 (ninS ne_b105_b108 nin0))
    have f116 : Fld Z h112 b105 c1_ "coder" "B" (.int 0) := (((f107.ext E108).keep Kq110 (ninS ne_b105_b108 nin0)).keep Kq112 (ninS ne_b105_b108 nin0))
    have g_b105 : n0 ≤ b105 := Nat.le_trans (Nat.le_trans (Nat.le_of_eq O.1.symm) O.2.1) (Nat.le_of_eq q105.symm)
    obtain ⟨v117, _, ⟨T117, L117, k117, n117⟩, -, X117, ⟨Lc117, hQ117, l117, y117, z117⟩, st117⟩ := X112.specialBack hx (y := mn48) rfl hown (mvT hZ (wd245 hw)) (mvT hZ (wd246 hw)) (mvT hZ (wd247 hw)) (by decide) (own_nsc (W := 1) hZ hw (wd14 hw) b105 b108 k108 ([cc, dd] : List Int32) zc h112 n0 O113 f114 f115 f116 f112 D0_ g_b105 (Nat.le_of_ble_eq_true rfl : 0 < ([cc, dd] : List Int32).length) (Nat.le_of_ble_eq_true rfl : ([cc, dd] : List Int32).length ≤ 4000) ((own_bdC occ.bd (own_bdC odd.bd own_bd0)) : ∀ c ∈ ([cc, dd] : List Int32), ¬ c < 0 ∧ ¬ (255 : Int32) < c) (hzc : ¬ (zc = (0 : Int32))) 2 rfl (by decide) (by decide)) (g := (mkF mi 144 #[s0, s1, s2, s3, s4, s5, s6, .val (.int cc), .val (.int dd), .val (.int ff), s10, s11, s12, s13, .unset, s15, s16, s17, s18, s19, s20, s21, s22, s23, s24] [(.ref b108), (.ref b105), (.ref b105)])) rfl (by rw [hml]; rfl) (Steps.refl _) (a := b105) (argsL := [(.ref b108)]) (rest := [(.ref b105)]) (lenOf pd_32 rfl) rfl (Nat.le_of_ble_eq_true rfl) (hb hby at_144) (fun _ _ => ⟨rfl, e112, (by decide : 5 + 1 ≤ _), (by decide : 22 + 2 ≤ _)⟩)
    dsimp only [Pt.U, Pt.locs, Pt.cells, Pt.slots] at X117 l117 y117 z117 st117 hQ117
    subst l117 y117 z117
    obtain ⟨t_117, rfl, Nq117, Kq117, fr_t_117, r117_0⟩ := hQ117
    have N117 := Fr.app N112 Nq117
    have pre118 : ∀ tt, SP pg ev below (T117.setTop (mkF mi 157 #[s0, s1, s2, s3, s4, s5, s6, .val (.int cc), .val (.int dd), .val (.int ff), s10, s11, s12, s13, .val (.ref b105), s15, s16, s17, s18, s19, s20, s21, s22, s23, s24] [])) tt → SP pg ev below (s₁.setTop (mkF mi 122 #[s0, s1, s2, s3, s4, s5, s6, .val (.int cc), .val (.int dd), .val (.int ff), s10, s11, s12, s13, .unset, s15, s16, s17, s18, s19, s20, s21, s22, s23, s24] [])) tt := fun tt kk => pre102 _ (by
      show SP pg ev below (s₁.setTop (mkF mi 124 #[s0, s1, s2, s3, s4, s5, s6, .val (.int cc), .val (.int dd), .val (.int ff), s10, s11, s12, s13, .unset, s15, s16, s17, s18, s19, s20, s21, s22, s23, s24] [(.int ff)])) _
      refine XS.ifNo X0.here hx rfl (hb hby at_124) rfl ((if0 _ _).trans (feq hc101).1) ?_
      refine st105 _ ?_
      refine XS.dup X105.here hx rfl (hb hby at_130) rfl rfl ?_
      refine XS.iconst X105.here hx rfl (hb hby at_131) ?_
      refine st108 _ ?_
      refine XS.dup X108.here hx rfl (hb hby at_134) rfl rfl ?_
      refine XS.iconst X108.here hx rfl (hb hby at_135) ?_
      refine XS.iload X108.here hx rfl (hb hby at_136) rfl ?_
      refine st110 _ ?_
      refine XS.dup X110.here hx rfl (hb hby at_139) rfl rfl ?_
      refine XS.iconst X110.here hx rfl (hb hby at_140) ?_
      refine XS.iload X110.here hx rfl (hb hby at_141) rfl ?_
      refine st112 _ ?_
      refine st117.trans ?_
      refine XS.goto X117.here hx rfl (pc0 := 147) (pc' := 155) rfl (hb hby at_147) (by decide) (by decide) ?_
      refine XS.astore X117.here hx rfl (hb hby at_155) rfl rfl (l' := #[s0, s1, s2, s3, s4, s5, s6, .val (.int cc), .val (.int dd), .val (.int ff), s10, s11, s12, s13, .val (.ref b105), s15, s16, s17, s18, s19, s20, s21, s22, s23, s24]) rfl ?_
      exact kk)
    exact ⟨_, _, _, b105, t_117, ([cc, dd] : List Int32), X117.more (by decide) (by decide), rfl, N117, ((((((Keep.refl hE []).ext E105).ext E108).trans Kq110 (allS (Or.inr (Nat.le_trans E105.1 (Nat.le_of_eq q108.symm))) all0)).trans Kq112 (allS (Or.inr (Nat.le_trans E105.1 (Nat.le_of_eq q108.symm))) all0)).trans Kq117 (allS (Or.inr (Nat.le_of_eq q105.symm)) all0)), (Nat.le_of_eq q105.symm), (Nat.le_trans (Nat.le_trans (Nat.le_trans (Nat.le_trans E105.1 E108.1) Kq110.1) Kq112.1) fr_t_117), r117_0, Or.inr ⟨hc101, rfl⟩, OKs2 occ odd, fun tt kk => pre118 tt kk⟩
theorem sw_view {la : Launch} {Z : State} {a0 : Array Value} (hw : HW a0 Z) (cc dd ff zc : Int32) (s0 s1 s2 s3 s4 s5 s6 s7 s8 s9 s13 s14 s16 s17 s18 s19 s20 s21 s22 s23 s24 : Slot) (hE : Heap) (n0 : Nat) {pg : Program} {ev : Env} {sb : State} {mi : MethodId} {aa : Array Value} {below : List Frame} {me : Method} {cd : Code} {s₁ : State} {ls : List Loc} (X0 : Stand pg la ev room_1 sb mi aa below me cd s₁ ls 6 32) (hx : pg.tables.exec = Jvm.exec) (hby : cd.code = code) (hml : cd.maxLocals = 25) (hZ : Z.Warmed39 sb.vm) (hown : sb.vm.findClass c3_ = some mi.cls) (eE : s₁.heap = hE) (N0 : Fr n0 ls) (O : Old Z n0 hE) (D0_ : Sta Z Z.heap c1_ c5_ "Z" (.int zc)) (occ : COk cc) (odd : COk dd) (hzc : ¬ (zc = (0 : Int32))) :
    ∃ (T' : State) (h' : Heap) (L' : List Loc) (vw : Value) (cv : List Int32), Stand pg la ev room_1 sb mi aa below me cd T' L' (9) (48) ∧ T'.heap = h' ∧ Fr n0 L' ∧ Keep hE h' [] ∧ OStr Z h' vw cv ∧ (VV ff cc dd vw cv) ∧ (OKs cv) ∧ ∀ tt, SP pg ev below (T'.setTop (mkF mi 202 #[s0, s1, s2, s3, s4, s5, s6, s7, s8, s9, .val (.int cc), .val (.int dd), .val (.int ff), s13, s14, .val vw, s16, s17, s18, s19, s20, s21, s22, s23, s24] [])) tt → SP pg ev below (s₁.setTop (mkF mi 157 #[s0, s1, s2, s3, s4, s5, s6, s7, s8, s9, .val (.int cc), .val (.int dd), .val (.int ff), s13, s14, .unset, s16, s17, s18, s19, s20, s21, s22, s23, s24] [])) tt := by
  have pre0 : ∀ tt, SP pg ev below (s₁.setTop (mkF mi 157 #[s0, s1, s2, s3, s4, s5, s6, s7, s8, s9, .val (.int cc), .val (.int dd), .val (.int ff), s13, s14, .unset, s16, s17, s18, s19, s20, s21, s22, s23, s24] [])) tt → SP pg ev below (s₁.setTop (mkF mi 157 #[s0, s1, s2, s3, s4, s5, s6, s7, s8, s9, .val (.int cc), .val (.int dd), .val (.int ff), s13, s14, .unset, s16, s17, s18, s19, s20, s21, s22, s23, s24] [])) tt := fun tt kk => kk
  have pre102 : ∀ tt, SP pg ev below (s₁.setTop (mkF mi 159 #[s0, s1, s2, s3, s4, s5, s6, s7, s8, s9, .val (.int cc), .val (.int dd), .val (.int ff), s13, s14, .unset, s16, s17, s18, s19, s20, s21, s22, s23, s24] [(.int ff)])) tt → SP pg ev below (s₁.setTop (mkF mi 157 #[s0, s1, s2, s3, s4, s5, s6, s7, s8, s9, .val (.int cc), .val (.int dd), .val (.int ff), s13, s14, .unset, s16, s17, s18, s19, s20, s21, s22, s23, s24] [])) tt := fun tt kk => pre0 _ (by
    show SP pg ev below (s₁.setTop (mkF mi 157 #[s0, s1, s2, s3, s4, s5, s6, s7, s8, s9, .val (.int cc), .val (.int dd), .val (.int ff), s13, s14, .unset, s16, s17, s18, s19, s20, s21, s22, s23, s24] [])) _
    refine XS.iload X0.here hx rfl (hb hby at_157) rfl ?_
    exact kk)
  by_cases hc101 : ff = (0 : Int32)
  · have pre103 : ∀ tt, SP pg ev below (s₁.setTop (mkF mi 202 #[s0, s1, s2, s3, s4, s5, s6, s7, s8, s9, .val (.int cc), .val (.int dd), .val (.int ff), s13, s14, .val .null, s16, s17, s18, s19, s20, s21, s22, s23, s24] [])) tt → SP pg ev below (s₁.setTop (mkF mi 157 #[s0, s1, s2, s3, s4, s5, s6, s7, s8, s9, .val (.int cc), .val (.int dd), .val (.int ff), s13, s14, .unset, s16, s17, s18, s19, s20, s21, s22, s23, s24] [])) tt := fun tt kk => pre102 _ (by
      show SP pg ev below (s₁.setTop (mkF mi 159 #[s0, s1, s2, s3, s4, s5, s6, s7, s8, s9, .val (.int cc), .val (.int dd), .val (.int ff), s13, s14, .unset, s16, s17, s18, s19, s20, s21, s22, s23, s24] [(.int ff)])) _
      refine XS.ifNo X0.here hx rfl (hb hby at_159) rfl ((if0 _ _).trans (teq hc101).2) ?_
      refine XS.aconstNull X0.here hx rfl (hb hby at_162) ?_
      refine XS.goto X0.here hx rfl (pc0 := 163) (pc' := 200) rfl (hb hby at_163) (by decide) (by decide) ?_
      refine XS.astore X0.here hx rfl (hb hby at_200) rfl rfl (l' := #[s0, s1, s2, s3, s4, s5, s6, s7, s8, s9, .val (.int cc), .val (.int dd), .val (.int ff), s13, s14, .val .null, s16, s17, s18, s19, s20, s21, s22, s23, s24]) rfl ?_
      exact kk)
    exact ⟨_, _, _, .null, ([cc] : List Int32), X0.more (by decide) (by decide), eE, N0, (Keep.refl hE []), Or.inl rfl, Or.inl ⟨hc101, rfl⟩, OKs1 occ, fun tt kk => pre103 tt kk⟩
  · have pre105 : ∀ tt, SP pg ev below (s₁.setTop (mkF mi 169 #[s0, s1, s2, s3, s4, s5, s6, s7, s8, s9, .val (.int cc), .val (.int dd), .val (.int ff), s13, s14, .unset, s16, s17, s18, s19, s20, s21, s22, s23, s24] [(.int 1), (.int ff)])) tt → SP pg ev below (s₁.setTop (mkF mi 157 #[s0, s1, s2, s3, s4, s5, s6, s7, s8, s9, .val (.int cc), .val (.int dd), .val (.int ff), s13, s14, .unset, s16, s17, s18, s19, s20, s21, s22, s23, s24] [])) tt := fun tt kk => pre102 _ (by
      show SP pg ev below (s₁.setTop (mkF mi 159 #[s0, s1, s2, s3, s4, s5, s6, s7, s8, s9, .val (.int cc), .val (.int dd), .val (.int ff), s13, s14, .unset, s16, s17, s18, s19, s20, s21, s22, s23, s24] [(.int ff)])) _
      refine XS.ifYes X0.here hx rfl (pc0 := 159) (pc' := 166) rfl (hb hby at_159) rfl ((if0 _ _).trans (feq hc101).2) (by decide) (by decide) ?_
      refine XS.iload X0.here hx rfl (hb hby at_166) rfl ?_
      refine XS.iconst X0.here hx rfl (hb hby at_168) ?_
      exact kk)
    by_cases hc104 : ff = (1 : Int32)
    · obtain ⟨v106, _, ⟨T106, L106, k106, n106⟩, -, X106, ⟨Lc106, hQ106, l106, y106, z106⟩, st106⟩ := Jvm.LawKit.callS X0 hx (y := mn34) hown (mvT hZ (wd4 hw)) (mvT hZ (wd5 hw)) (mvT hZ (wd6 hw)) (mvT hZ (wd7 hw)) (by decide) (backOf (W := 0) (rm_vof la Z a0 hw [] cc zc hE n0 O D0_ (occ.2.1 : ¬ ((255 : Int32) < cc)) (occ.1 : ¬ (cc < (0 : Int32))) (hzc : ¬ (zc = (0 : Int32)))) hZ (wd7 hw) (wd6 hw) (by decide) (by decide)) (g := (mkF mi 174 #[s0, s1, s2, s3, s4, s5, s6, s7, s8, s9, .val (.int cc), .val (.int dd), .val (.int ff), s13, s14, .unset, s16, s17, s18, s19, s20, s21, s22, s23, s24] [(.int cc)])) rfl (by rw [hml]; rfl) (argsL := [(.int cc)]) (rest := []) (lenOf pd_31 rfl) rfl (Nat.le_of_ble_eq_true rfl) (hb hby at_174) (fun _ _ => ⟨rfl, eE, (by decide : 6 + 2 ≤ _), (by decide : 32 + 5 ≤ _)⟩)
      dsimp only [Pt.U, Pt.locs, Pt.cells, Pt.slots] at X106 l106 y106 z106 st106 hQ106
      subst l106 y106 z106
      obtain ⟨x_106, t_106, rfl, Nq106, Kq106, fr_x_106, fr_t_106, r106_0⟩ := hQ106
      have N106 := Fr.app N0 Nq106
      have pre107 : ∀ tt, SP pg ev below (T106.setTop (mkF mi 202 #[s0, s1, s2, s3, s4, s5, s6, s7, s8, s9, .val (.int cc), .val (.int dd), .val (.int ff), s13, s14, .val (.ref x_106), s16, s17, s18, s19, s20, s21, s22, s23, s24] [])) tt → SP pg ev below (s₁.setTop (mkF mi 157 #[s0, s1, s2, s3, s4, s5, s6, s7, s8, s9, .val (.int cc), .val (.int dd), .val (.int ff), s13, s14, .unset, s16, s17, s18, s19, s20, s21, s22, s23, s24] [])) tt := fun tt kk => pre105 _ (by
        show SP pg ev below (s₁.setTop (mkF mi 169 #[s0, s1, s2, s3, s4, s5, s6, s7, s8, s9, .val (.int cc), .val (.int dd), .val (.int ff), s13, s14, .unset, s16, s17, s18, s19, s20, s21, s22, s23, s24] [(.int 1), (.int ff)])) _
        refine XS.icmpNo X0.here hx rfl (hb hby at_169) rfl (teq hc104).2 ?_
        refine XS.iload X0.here hx rfl (hb hby at_172) rfl ?_
        refine st106 _ ?_
        refine XS.goto X106.here hx rfl (pc0 := 177) (pc' := 200) rfl (hb hby at_177) (by decide) (by decide) ?_
        refine XS.astore X106.here hx rfl (hb hby at_200) rfl rfl (l' := #[s0, s1, s2, s3, s4, s5, s6, s7, s8, s9, .val (.int cc), .val (.int dd), .val (.int ff), s13, s14, .val (.ref x_106), s16, s17, s18, s19, s20, s21, s22, s23, s24]) rfl ?_
        exact kk)
      exact ⟨_, _, _, (.ref x_106), ([cc] : List Int32), X106.more (by decide) (by decide), rfl, N106, ((Keep.refl hE []).trans Kq106 all0), Or.inr ⟨x_106, t_106, rfl, r106_0⟩, Or.inr ⟨hc101, x_106, rfl, Or.inl ⟨hc104, rfl⟩⟩, OKs1 occ, fun tt kk => pre107 tt kk⟩
    · obtain ⟨T108, h108, X108, e108, E108, A108, D108, -, st108⟩ := newO X0 hx hZ hown (wd243 hw) (wd14 hw) (wd6 hw) eE (g := (mkF mi 180 #[s0, s1, s2, s3, s4, s5, s6, s7, s8, s9, .val (.int cc), .val (.int dd), .val (.int ff), s13, s14, .unset, s16, s17, s18, s19, s20, s21, s22, s23, s24] [])) rfl (hb hby at_180) (by decide) (by decide)
      obtain ⟨b108, q108⟩ : ∃ z, z = hE.size := ⟨_, rfl⟩
      rw [← q108] at A108 D108 st108
      have f109 : Fld Z h108 b108 c1_ "value" "[B" .null := D108 (Or.inr (wd27 hw)) (ty := (.array .byte)) (by decide)
      have f110 : Fld Z h108 b108 c1_ "coder" "B" (.int 0) := D108 (Or.inr (wd29 hw)) (ty := .byte) (by decide)
      obtain ⟨T111, h111, k111, X111, e111, E111, A111, st111⟩ := newP (aty := .char) X108 hx hZ (wd244 hw) e108 (g := (mkF mi 185 #[s0, s1, s2, s3, s4, s5, s6, s7, s8, s9, .val (.int cc), .val (.int dd), .val (.int ff), s13, s14, .unset, s16, s17, s18, s19, s20, s21, s22, s23, s24] [(.int 2), (.ref b108), (.ref b108)])) rfl (hb hby at_185) rfl (by decide) (cap := 2) (by decide) (by decide) (by decide) (by decide)
      obtain ⟨b111, q111⟩ : ∃ z, z = h108.size := ⟨_, rfl⟩
      rw [← q111] at A111 st111
      have f112 : Arv Z h111 b111 k111 .char (2 : Int32) [(.int 0), (.int 0)] (.int 0) := (Arv.new A111 (by decide)).pad (pad_rep [] (.int 0) 2)
      have O114 : Old Z n0 h108 := (O.ext E108)
      have g_b111 : n0 ≤ b111 := Nat.le_trans (Nat.le_trans (Nat.le_of_eq O114.1.symm) O114.2.1) (Nat.le_of_eq q111.symm)
      obtain ⟨T113, h113, L113, X113, e113, N113, Kq113, f113, st113⟩ := own_sc X111 hx hZ e111 f112 0 (c := cc) (j := (0 : Int32)) (own_nar_c occ.bd) rfl (by decide) (Nat.le_of_ble_eq_true rfl) N0 g_b111 (g := (mkF mi 191 #[s0, s1, s2, s3, s4, s5, s6, s7, s8, s9, .val (.int cc), .val (.int dd), .val (.int ff), s13, s14, .unset, s16, s17, s18, s19, s20, s21, s22, s23, s24] [(.int cc), (.int 0), (.ref b111), (.ref b111), (.ref b108), (.ref b108)])) rfl rfl (hb hby at_191)
      obtain ⟨T115, h115, L115, X115, e115, N115, Kq115, f115, st115⟩ := own_sc X113 hx hZ e113 f113 1 (c := dd) (j := (1 : Int32)) (own_nar_c odd.bd) rfl (by decide) (Nat.le_of_ble_eq_true rfl) N113 g_b111 (g := (mkF mi 196 #[s0, s1, s2, s3, s4, s5, s6, s7, s8, s9, .val (.int cc), .val (.int dd), .val (.int ff), s13, s14, .unset, s16, s17, s18, s19, s20, s21, s22, s23, s24] [(.int dd), (.int 1), (.ref b111), (.ref b111), (.ref b108), (.ref b108)])) rfl rfl (hb hby at_196)
      have O116 : Old Z n0 h115 := (((O114.ext E111).keep Kq113 (allS g_b111 all0)).keep Kq115 (allS g_b111 all0))
      have f117 : Exa Z h115 b108 c1_ := (((A108.ext E111).keep Kq113).keep Kq115)
      have ne_b108_b111 : b108 ≠ b111 := Nat.ne_of_lt (Nat.lt_of_lt_of_le A108.lt (Nat.le_trans (Nat.le_refl _) (Nat.le_of_eq q111.symm)))
      have f118 : Fld Z h115 b108 c1_ "value" "[B" .null := (((f109.ext E111).keep Kq113 (ninS ne_b108_b111 nin0)).keep Kq115 (ninS ne_b108_b111 nin0))
      have f119 : Fld Z h115 b108 c1_ "coder" "B" (.int 0) := (((f110.ext E111).keep Kq113 (ninS ne_b108_b111 nin0)).keep Kq115 (ninS ne_b108_b111 nin0))
      have g_b108 : n0 ≤ b108 := Nat.le_trans (Nat.le_trans (Nat.le_of_eq O.1.symm) O.2.1) (Nat.le_of_eq q108.symm)
      obtain ⟨v120, _, ⟨T120, L120, k120, n120⟩, -, X120, ⟨Lc120, hQ120, l120, y120, z120⟩, st120⟩ := X115.specialBack hx (y := mn48) rfl hown (mvT hZ (wd245 hw)) (mvT hZ (wd246 hw)) (mvT hZ (wd247 hw)) (by decide) (own_nsc (W := 1) hZ hw (wd14 hw) b108 b111 k111 ([cc, dd] : List Int32) zc h115 n0 O116 f117 f118 f119 f115 D0_ g_b108 (Nat.le_of_ble_eq_true rfl : 0 < ([cc, dd] : List Int32).length) (Nat.le_of_ble_eq_true rfl : ([cc, dd] : List Int32).length ≤ 4000) ((own_bdC occ.bd (own_bdC odd.bd own_bd0)) : ∀ c ∈ ([cc, dd] : List Int32), ¬ c < 0 ∧ ¬ (255 : Int32) < c) (hzc : ¬ (zc = (0 : Int32))) 2 rfl (by decide) (by decide)) (g := (mkF mi 197 #[s0, s1, s2, s3, s4, s5, s6, s7, s8, s9, .val (.int cc), .val (.int dd), .val (.int ff), s13, s14, .unset, s16, s17, s18, s19, s20, s21, s22, s23, s24] [(.ref b111), (.ref b108), (.ref b108)])) rfl (by rw [hml]; rfl) (Steps.refl _) (a := b108) (argsL := [(.ref b111)]) (rest := [(.ref b108)]) (lenOf pd_32 rfl) rfl (Nat.le_of_ble_eq_true rfl) (hb hby at_197) (fun _ _ => ⟨rfl, e115, (by decide : 8 + 1 ≤ _), (by decide : 38 + 2 ≤ _)⟩)
      dsimp only [Pt.U, Pt.locs, Pt.cells, Pt.slots] at X120 l120 y120 z120 st120 hQ120
      subst l120 y120 z120
      obtain ⟨t_120, rfl, Nq120, Kq120, fr_t_120, r120_0⟩ := hQ120
      have N120 := Fr.app N115 Nq120
      have pre121 : ∀ tt, SP pg ev below (T120.setTop (mkF mi 202 #[s0, s1, s2, s3, s4, s5, s6, s7, s8, s9, .val (.int cc), .val (.int dd), .val (.int ff), s13, s14, .val (.ref b108), s16, s17, s18, s19, s20, s21, s22, s23, s24] [])) tt → SP pg ev below (s₁.setTop (mkF mi 157 #[s0, s1, s2, s3, s4, s5, s6, s7, s8, s9, .val (.int cc), .val (.int dd), .val (.int ff), s13, s14, .unset, s16, s17, s18, s19, s20, s21, s22, s23, s24] [])) tt := fun tt kk => pre105 _ (by
        show SP pg ev below (s₁.setTop (mkF mi 169 #[s0, s1, s2, s3, s4, s5, s6, s7, s8, s9, .val (.int cc), .val (.int dd), .val (.int ff), s13, s14, .unset, s16, s17, s18, s19, s20, s21, s22, s23, s24] [(.int 1), (.int ff)])) _
        refine XS.icmpYes X0.here hx rfl (pc0 := 169) (pc' := 180) rfl (hb hby at_169) rfl (feq hc104).2 (by decide) (by decide) ?_
        refine st108 _ ?_
        refine XS.dup X108.here hx rfl (hb hby at_183) rfl rfl ?_
        refine XS.iconst X108.here hx rfl (hb hby at_184) ?_
        refine st111 _ ?_
        refine XS.dup X111.here hx rfl (hb hby at_187) rfl rfl ?_
        refine XS.iconst X111.here hx rfl (hb hby at_188) ?_
        refine XS.iload X111.here hx rfl (hb hby at_189) rfl ?_
        refine st113 _ ?_
        refine XS.dup X113.here hx rfl (hb hby at_192) rfl rfl ?_
        refine XS.iconst X113.here hx rfl (hb hby at_193) ?_
        refine XS.iload X113.here hx rfl (hb hby at_194) rfl ?_
        refine st115 _ ?_
        refine st120.trans ?_
        refine XS.astore X120.here hx rfl (hb hby at_200) rfl rfl (l' := #[s0, s1, s2, s3, s4, s5, s6, s7, s8, s9, .val (.int cc), .val (.int dd), .val (.int ff), s13, s14, .val (.ref b108), s16, s17, s18, s19, s20, s21, s22, s23, s24]) rfl ?_
        exact kk)
      exact ⟨_, _, _, (.ref b108), ([cc, dd] : List Int32), X120.more (by decide) (by decide), rfl, N120, ((((((Keep.refl hE []).ext E108).ext E111).trans Kq113 (allS (Or.inr (Nat.le_trans E108.1 (Nat.le_of_eq q111.symm))) all0)).trans Kq115 (allS (Or.inr (Nat.le_trans E108.1 (Nat.le_of_eq q111.symm))) all0)).trans Kq120 (allS (Or.inr (Nat.le_of_eq q108.symm)) all0)), Or.inr ⟨b108, t_120, rfl, r120_0⟩, Or.inr ⟨hc101, b108, rfl, Or.inr ⟨hc104, rfl⟩⟩, OKs2 occ odd, fun tt kk => pre121 tt kk⟩
theorem pd_33 : parseMethodDescriptor "(I)C" = some ⟨[.int], some .char⟩ := by decide +kernel
theorem sw_app {la : Launch} {Z : State} {a0 : Array Value} (hw : HW a0 Z) (xx zc : Int32) (s1 s2 s3 s4 s5 s6 s7 s8 s9 s10 s11 s12 s13 s14 s15 s17 s18 s19 s20 s21 s22 s23 s24 : Slot) (hE : Heap) (n0 : Nat) {pg : Program} {ev : Env} {sb : State} {mi : MethodId} {aa : Array Value} {below : List Frame} {me : Method} {cd : Code} {s₁ : State} {ls : List Loc} (X0 : Stand pg la ev room_1 sb mi aa below me cd s₁ ls 9 48) (hx : pg.tables.exec = Jvm.exec) (hby : cd.code = code) (hml : cd.maxLocals = 25) (hZ : Z.Warmed39 sb.vm) (hown : sb.vm.findClass c3_ = some mi.cls) (eE : s₁.heap = hE) (N0 : Fr n0 ls) (O : Old Z n0 hE) (D0_ : Sta Z Z.heap c1_ c5_ "Z" (.int zc)) (hzc : ¬ (zc = (0 : Int32))) :
    ∃ (T' : State) (h' : Heap) (L' : List Loc) (va : Value) (ca : List Int32), Stand pg la ev room_1 sb mi aa below me cd T' L' (11) (53) ∧ T'.heap = h' ∧ Fr n0 L' ∧ Keep hE h' [] ∧ OStr Z h' va ca ∧ (OKs ca) ∧ ∀ tt, SP pg ev below (T'.setTop (mkF mi 223 #[.val (.int xx), s1, s2, s3, s4, s5, s6, s7, s8, s9, s10, s11, s12, s13, s14, s15, .val va, s17, s18, s19, s20, s21, s22, s23, s24] [])) tt → SP pg ev below (s₁.setTop (mkF mi 202 #[.val (.int xx), s1, s2, s3, s4, s5, s6, s7, s8, s9, s10, s11, s12, s13, s14, s15, .unset, s17, s18, s19, s20, s21, s22, s23, s24] [])) tt := by
  have pre0 : ∀ tt, SP pg ev below (s₁.setTop (mkF mi 202 #[.val (.int xx), s1, s2, s3, s4, s5, s6, s7, s8, s9, s10, s11, s12, s13, s14, s15, .unset, s17, s18, s19, s20, s21, s22, s23, s24] [])) tt → SP pg ev below (s₁.setTop (mkF mi 202 #[.val (.int xx), s1, s2, s3, s4, s5, s6, s7, s8, s9, s10, s11, s12, s13, s14, s15, .unset, s17, s18, s19, s20, s21, s22, s23, s24] [])) tt := fun tt kk => kk
  have pre102 : ∀ tt, SP pg ev below (s₁.setTop (mkF mi 205 #[.val (.int xx), s1, s2, s3, s4, s5, s6, s7, s8, s9, s10, s11, s12, s13, s14, s15, .unset, s17, s18, s19, s20, s21, s22, s23, s24] [(.int (xx &&& (1 : Int32)))])) tt → SP pg ev below (s₁.setTop (mkF mi 202 #[.val (.int xx), s1, s2, s3, s4, s5, s6, s7, s8, s9, s10, s11, s12, s13, s14, s15, .unset, s17, s18, s19, s20, s21, s22, s23, s24] [])) tt := fun tt kk => pre0 _ (by
    show SP pg ev below (s₁.setTop (mkF mi 202 #[.val (.int xx), s1, s2, s3, s4, s5, s6, s7, s8, s9, s10, s11, s12, s13, s14, s15, .unset, s17, s18, s19, s20, s21, s22, s23, s24] [])) _
    refine XS.iloadN X0.here hx rfl (hb hby at_202) rfl ?_
    refine XS.iconst X0.here hx rfl (hb hby at_203) ?_
    refine XS.iand X0.here hx rfl (hb hby at_204) rfl ?_
    exact kk)
  by_cases hc101 : (xx &&& (1 : Int32)) = (0 : Int32)
  · have pre103 : ∀ tt, SP pg ev below (s₁.setTop (mkF mi 223 #[.val (.int xx), s1, s2, s3, s4, s5, s6, s7, s8, s9, s10, s11, s12, s13, s14, s15, .val .null, s17, s18, s19, s20, s21, s22, s23, s24] [])) tt → SP pg ev below (s₁.setTop (mkF mi 202 #[.val (.int xx), s1, s2, s3, s4, s5, s6, s7, s8, s9, s10, s11, s12, s13, s14, s15, .unset, s17, s18, s19, s20, s21, s22, s23, s24] [])) tt := fun tt kk => pre102 _ (by
      show SP pg ev below (s₁.setTop (mkF mi 205 #[.val (.int xx), s1, s2, s3, s4, s5, s6, s7, s8, s9, s10, s11, s12, s13, s14, s15, .unset, s17, s18, s19, s20, s21, s22, s23, s24] [(.int (xx &&& (1 : Int32)))])) _
      refine XS.ifYes X0.here hx rfl (pc0 := 205) (pc' := 220) rfl (hb hby at_205) rfl ((if0 _ _).trans (teq hc101).1) (by decide) (by decide) ?_
      refine XS.aconstNull X0.here hx rfl (hb hby at_220) ?_
      refine XS.astore X0.here hx rfl (hb hby at_221) rfl rfl (l' := #[.val (.int xx), s1, s2, s3, s4, s5, s6, s7, s8, s9, s10, s11, s12, s13, s14, s15, .val .null, s17, s18, s19, s20, s21, s22, s23, s24]) rfl ?_
      exact kk)
    exact ⟨_, _, _, .null, ([(48 : Int32)] : List Int32), X0.more (by decide) (by decide), eE, N0, (Keep.refl hE []), Or.inl rfl, OKs1 own_c48, fun tt kk => pre103 tt kk⟩
  · obtain ⟨v104, _, ⟨T104, L104, k104, n104⟩, -, X104, ⟨Lc104, hQ104, l104, y104, z104⟩, st104⟩ := Jvm.LawKit.callS X0 hx (y := mn30) hown (mvT hZ (wd0 hw)) (mvT hZ (wd1 hw)) (mvT hZ (wd2 hw)) (mvT hZ (wd3 hw)) (by decide) (backOf (W := 0) (rm_chc la Z a0 hw [] ((xx.toUInt32 >>> ((1 : Int32) &&& 31).toUInt32).toInt32) hE n0 O) hZ (wd3 hw) (wd2 hw) (by decide) (by decide)) (g := (mkF mi 211 #[.val (.int xx), s1, s2, s3, s4, s5, s6, s7, s8, s9, s10, s11, s12, s13, s14, s15, .unset, s17, s18, s19, s20, s21, s22, s23, s24] [(.int ((xx.toUInt32 >>> ((1 : Int32) &&& 31).toUInt32).toInt32))])) rfl (by rw [hml]; rfl) (argsL := [(.int ((xx.toUInt32 >>> ((1 : Int32) &&& 31).toUInt32).toInt32))]) (rest := []) (lenOf pd_33 rfl) rfl (Nat.le_of_ble_eq_true rfl) (hb hby at_211) (fun _ _ => ⟨rfl, eE, (by decide : 9 + 0 ≤ _), (by decide : 48 + 0 ≤ _)⟩)
    dsimp only [Pt.U, Pt.locs, Pt.cells, Pt.slots] at X104 l104 y104 z104 st104 hQ104
    subst l104 y104 z104
    obtain ⟨rfl, Nq104, ek104⟩ := hQ104
    have N104 := Fr.app N0 Nq104
    obtain ⟨v105, _, ⟨T105, L105, k105, n105⟩, -, X105, ⟨Lc105, hQ105, l105, y105, z105⟩, st105⟩ := Jvm.LawKit.callS X104 hx (y := mn34) hown (mvT hZ (wd4 hw)) (mvT hZ (wd5 hw)) (mvT hZ (wd6 hw)) (mvT hZ (wd7 hw)) (by decide) (backOf (W := 0) (rm_vof la Z a0 hw [] (chF ((xx.toUInt32 >>> ((1 : Int32) &&& 31).toUInt32).toInt32)) zc hE n0 O D0_ ((own_cok _).2.1 : ¬ ((255 : Int32) < (chF ((xx.toUInt32 >>> ((1 : Int32) &&& 31).toUInt32).toInt32)))) ((own_cok _).1 : ¬ ((chF ((xx.toUInt32 >>> ((1 : Int32) &&& 31).toUInt32).toInt32)) < (0 : Int32))) (hzc : ¬ (zc = (0 : Int32)))) hZ (wd7 hw) (wd6 hw) (by decide) (by decide)) (g := (mkF mi 214 #[.val (.int xx), s1, s2, s3, s4, s5, s6, s7, s8, s9, s10, s11, s12, s13, s14, s15, .unset, s17, s18, s19, s20, s21, s22, s23, s24] [(.int (chF ((xx.toUInt32 >>> ((1 : Int32) &&& 31).toUInt32).toInt32)))])) rfl (by rw [hml]; rfl) (argsL := [(.int (chF ((xx.toUInt32 >>> ((1 : Int32) &&& 31).toUInt32).toInt32)))]) (rest := []) (lenOf pd_31 rfl) rfl (Nat.le_of_ble_eq_true rfl) (hb hby at_214) (fun _ _ => ⟨rfl, ek104, (by decide : 9 + 2 ≤ _), (by decide : 48 + 5 ≤ _)⟩)
    dsimp only [Pt.U, Pt.locs, Pt.cells, Pt.slots] at X105 l105 y105 z105 st105 hQ105
    subst l105 y105 z105
    obtain ⟨x_105, t_105, rfl, Nq105, Kq105, fr_x_105, fr_t_105, r105_0⟩ := hQ105
    have N105 := Fr.app N104 Nq105
    have pre106 : ∀ tt, SP pg ev below (T105.setTop (mkF mi 223 #[.val (.int xx), s1, s2, s3, s4, s5, s6, s7, s8, s9, s10, s11, s12, s13, s14, s15, .val (.ref x_105), s17, s18, s19, s20, s21, s22, s23, s24] [])) tt → SP pg ev below (s₁.setTop (mkF mi 202 #[.val (.int xx), s1, s2, s3, s4, s5, s6, s7, s8, s9, s10, s11, s12, s13, s14, s15, .unset, s17, s18, s19, s20, s21, s22, s23, s24] [])) tt := fun tt kk => pre102 _ (by
      show SP pg ev below (s₁.setTop (mkF mi 205 #[.val (.int xx), s1, s2, s3, s4, s5, s6, s7, s8, s9, s10, s11, s12, s13, s14, s15, .unset, s17, s18, s19, s20, s21, s22, s23, s24] [(.int (xx &&& (1 : Int32)))])) _
      refine XS.ifNo X0.here hx rfl (hb hby at_205) rfl ((if0 _ _).trans (feq hc101).1) ?_
      refine XS.iloadN X0.here hx rfl (hb hby at_208) rfl ?_
      refine XS.iconst X0.here hx rfl (hb hby at_209) ?_
      refine XS.iushr X0.here hx rfl (hb hby at_210) rfl ?_
      refine st104 _ ?_
      refine st105 _ ?_
      refine XS.goto X105.here hx rfl (pc0 := 217) (pc' := 221) rfl (hb hby at_217) (by decide) (by decide) ?_
      refine XS.astore X105.here hx rfl (hb hby at_221) rfl rfl (l' := #[.val (.int xx), s1, s2, s3, s4, s5, s6, s7, s8, s9, s10, s11, s12, s13, s14, s15, .val (.ref x_105), s17, s18, s19, s20, s21, s22, s23, s24]) rfl ?_
      exact kk)
    exact ⟨_, _, _, (.ref x_105), ([(chF ((xx.toUInt32 >>> ((1 : Int32) &&& 31).toUInt32).toInt32))] : List Int32), X105, rfl, N105, ((Keep.refl hE []).trans Kq105 all0), Or.inr ⟨x_105, t_105, rfl, r105_0⟩, OKs1 (own_cok _), fun tt kk => pre106 tt kk⟩
theorem dj46_0 : decode jc46 0 = .ok (.aload_n 0, 1) := by decide +kernel
theorem dj46_1 : decode jc46 1 = .ok (.iconst 0, 1) := by decide +kernel
theorem dj46_2 : decode jc46 2 = .ok (.invokevirtual 7, 3) := by decide +kernel
theorem dj46_5 : decode jc46 5 = .ok (.bipush 106, 2) := by decide +kernel
theorem dj46_7 : decode jc46 7 = .ok (.if_icmp .ne 90, 3) := by decide +kernel
theorem dj46_10 : decode jc46 10 = .ok (.aload_n 0, 1) := by decide +kernel
theorem dj46_11 : decode jc46 11 = .ok (.iconst 1, 1) := by decide +kernel
theorem dj46_12 : decode jc46 12 = .ok (.invokevirtual 7, 3) := by decide +kernel
theorem dj46_15 : decode jc46 15 = .ok (.bipush 97, 2) := by decide +kernel
theorem dj46_17 : decode jc46 17 = .ok (.if_icmp .ne 80, 3) := by decide +kernel
theorem dj46_20 : decode jc46 20 = .ok (.aload_n 0, 1) := by decide +kernel
theorem dj46_21 : decode jc46 21 = .ok (.iconst 2, 1) := by decide +kernel
theorem dj46_22 : decode jc46 22 = .ok (.invokevirtual 7, 3) := by decide +kernel
theorem dj46_25 : decode jc46 25 = .ok (.bipush 118, 2) := by decide +kernel
theorem dj46_27 : decode jc46 27 = .ok (.if_icmp .ne 70, 3) := by decide +kernel
theorem dj46_30 : decode jc46 30 = .ok (.aload_n 0, 1) := by decide +kernel
theorem dj46_31 : decode jc46 31 = .ok (.iconst 3, 1) := by decide +kernel
theorem dj46_32 : decode jc46 32 = .ok (.invokevirtual 7, 3) := by decide +kernel
theorem dj46_35 : decode jc46 35 = .ok (.bipush 97, 2) := by decide +kernel
theorem dj46_37 : decode jc46 37 = .ok (.if_icmp .ne 60, 3) := by decide +kernel
theorem dj46_40 : decode jc46 40 = .ok (.aload_n 0, 1) := by decide +kernel
theorem dj46_41 : decode jc46 41 = .ok (.iconst 4, 1) := by decide +kernel
theorem dj46_42 : decode jc46 42 = .ok (.invokevirtual 7, 3) := by decide +kernel
theorem dj46_45 : decode jc46 45 = .ok (.bipush 58, 2) := by decide +kernel
theorem dj46_47 : decode jc46 47 = .ok (.if_icmp .ne 50, 3) := by decide +kernel
theorem dj46_50 : decode jc46 50 = .ok (.aload_n 0, 1) := by decide +kernel
theorem dj46_51 : decode jc46 51 = .ok (.iconst 5, 1) := by decide +kernel
theorem dj46_52 : decode jc46 52 = .ok (.invokevirtual 7, 3) := by decide +kernel
theorem dj46_55 : decode jc46 55 = .ok (.bipush 97, 2) := by decide +kernel
theorem dj46_57 : decode jc46 57 = .ok (.if_icmp .ne 40, 3) := by decide +kernel
theorem dj46_60 : decode jc46 60 = .ok (.aload_n 0, 1) := by decide +kernel
theorem dj46_61 : decode jc46 61 = .ok (.bipush 6, 2) := by decide +kernel
theorem dj46_63 : decode jc46 63 = .ok (.invokevirtual 7, 3) := by decide +kernel
theorem dj46_66 : decode jc46 66 = .ok (.bipush 112, 2) := by decide +kernel
theorem dj46_68 : decode jc46 68 = .ok (.if_icmp .ne 29, 3) := by decide +kernel
theorem dj46_71 : decode jc46 71 = .ok (.aload_n 0, 1) := by decide +kernel
theorem dj46_72 : decode jc46 72 = .ok (.bipush 7, 2) := by decide +kernel
theorem dj46_74 : decode jc46 74 = .ok (.invokevirtual 7, 3) := by decide +kernel
theorem dj46_77 : decode jc46 77 = .ok (.bipush 112, 2) := by decide +kernel
theorem dj46_79 : decode jc46 79 = .ok (.if_icmp .ne 18, 3) := by decide +kernel
theorem dj46_82 : decode jc46 82 = .ok (.aload_n 0, 1) := by decide +kernel
theorem dj46_83 : decode jc46 83 = .ok (.bipush 8, 2) := by decide +kernel
theorem dj46_85 : decode jc46 85 = .ok (.invokevirtual 7, 3) := by decide +kernel
theorem dj46_88 : decode jc46 88 = .ok (.bipush 47, 2) := by decide +kernel
theorem dj46_90 : decode jc46 90 = .ok (.if_icmp .ne 7, 3) := by decide +kernel
theorem dj46_93 : decode jc46 93 = .ok (.iconst 1, 1) := by decide +kernel
theorem dj46_94 : decode jc46 94 = .ok (.goto 4, 3) := by decide +kernel
theorem dj46_98 : decode jc46 98 = .ok (.ireturn, 1) := by decide +kernel
theorem ef_pok (mi : MethodId) (x : Addr) : entryFrame mi #[(.ref x)] 1 = mkF mi 0 #[.val (.ref x)] [] := rfl
def Q_pok (Z : State) (x t : Addr) (r : List Int32) (zc : Int32) (fm : Value) (hE : Heap) (n0 : Nat) (vv : Option Value) (hh : Heap) (LL : List Loc) : Prop := (vv = some (.int 1)) ∧ (Fr n0 LL) ∧ (hh = hE)
theorem rm_pok (hw : HW a0 Z) (ws : List Cond) (x t : Addr) (r : List Int32) (zc : Int32) (fm : Value) (hE : Heap) (n0 : Nat) (O : Old Z n0 hE) (P0_ : LStr Z hE x t (([(106 : Int32), (97 : Int32), (118 : Int32), (97 : Int32), (58 : Int32), (97 : Int32), (112 : Int32), (112 : Int32), (47 : Int32)] : List Int32) ++ r)) (D0_ : Sta Z Z.heap c1_ c5_ "Z" (.int zc)) (D1_ : Sta Z Z.heap c10_ c21_ c12_ fm) (hzc : ¬ (zc = (0 : Int32))) (hfm : fm.isRef = true) :
    MF la Z hE mn49 jc46 1 (some .boolean) ws (rr 4 0 0 53) #[(.ref x)] (Q_pok Z x t r zc fm hE n0) := by
  refine MetFree.of_bodySF (plainFor_of_name pn_com_example_beanloft_beanloft_naming_GlobalNameInApplicationPinLaw) hisR ?_
  intro pg ev sb mi gs below me cd s₁ Bd hml0 hPt hKt
  obtain ⟨rfl, hZ, hh⟩ := hPt
  have hx := Bd.exec
  have hby := Bd.bytes
  have hml : cd.maxLocals = 1 := hml0
  have hown : sb.vm.findClass c3_ = some mi.cls := findClass_of_methodNamed Bd.named
  have X0 : Stand pg la ev (rr 4 0 0 53) sb mi #[(.ref x)] below me cd s₁ [] 0 0 := Stand.of_body Bd
  have eE : s₁.heap = hE := by rw [← hh, Bd.state]; rfl
  have N0 := Fr.nil n0
  have pre0 : ∀ tt, SP pg ev below (s₁.setTop (mkF mi 0 #[.val (.ref x)] [])) tt → SP pg ev below (s₁.setTop (entryFrame mi #[(.ref x)] 1)) tt := fun tt kk => castTop (ef_pok mi x) kk
  obtain ⟨cq101, kq101, q101a, q101b, q101c⟩ := isOf hZ eE (P0_).1
  obtain ⟨v101, _, ⟨T101, L101, k101, n101⟩, -, X101, ⟨Lc101, hQ101, l101, y101, z101⟩, st101⟩ := X0.virtualBack hx (y := mn6) (z := mn6) hown (mvT hZ (wd227 hw)) (mvT hZ (wd228 hw)) (notFace_of_selects (args := #[]) (mvT hZ (wd230 hw))) (mvT hZ (wd230 hw)) (mvT hZ (wd229 hw)) (by decide) (backOf (W := 0) (rm_sch la Z a0 hw [] x (0 : Int32) t (([(106 : Int32), (97 : Int32), (118 : Int32), (97 : Int32), (58 : Int32), (97 : Int32), (112 : Int32), (112 : Int32), (47 : Int32)] : List Int32) ++ r) 0 zc fm hE n0 O P0_ D0_ D1_ (rfl : (0 : Int32) = Int32.ofNat 0) ((Nat.lt_of_lt_of_le (by decide : 0 < 9) (own_JA r)) : 0 < (([(106 : Int32), (97 : Int32), (118 : Int32), (97 : Int32), (58 : Int32), (97 : Int32), (112 : Int32), (112 : Int32), (47 : Int32)] : List Int32) ++ r).length) (hzc : ¬ (zc = (0 : Int32))) (hfm : fm.isRef = true)) hZ (wd231 hw) (wd6 hw) (by decide) (by decide)) q101a q101c (g := (mkF mi 2 #[.val (.ref x)] [(.int 0), (.ref x)])) rfl (by rw [hml]; rfl) (Steps.refl _) (argsL := [(.int 0)]) (rest := []) (lenOf pd_33 rfl) rfl (Nat.le_of_ble_eq_true rfl) (hb hby dj46_2) (fun _ _ => ⟨rfl, eE, (by decide : 0 + 0 ≤ _), (by decide : 0 + 0 ≤ _)⟩)
  dsimp only [Pt.U, Pt.locs, Pt.cells, Pt.slots] at X101 l101 y101 z101 st101 hQ101
  subst l101 y101 z101
  obtain ⟨rfl, Nq101, ek101⟩ := hQ101
  have N101 := Fr.app N0 Nq101
  obtain ⟨cq102, kq102, q102a, q102b, q102c⟩ := isOf hZ ek101 (P0_).1
  obtain ⟨v102, _, ⟨T102, L102, k102, n102⟩, -, X102, ⟨Lc102, hQ102, l102, y102, z102⟩, st102⟩ := X101.virtualBack hx (y := mn6) (z := mn6) hown (mvT hZ (wd227 hw)) (mvT hZ (wd228 hw)) (notFace_of_selects (args := #[]) (mvT hZ (wd230 hw))) (mvT hZ (wd230 hw)) (mvT hZ (wd229 hw)) (by decide) (backOf (W := 0) (rm_sch la Z a0 hw [] x (1 : Int32) t (([(106 : Int32), (97 : Int32), (118 : Int32), (97 : Int32), (58 : Int32), (97 : Int32), (112 : Int32), (112 : Int32), (47 : Int32)] : List Int32) ++ r) 1 zc fm hE n0 O P0_ D0_ D1_ (rfl : (1 : Int32) = Int32.ofNat 1) ((Nat.lt_of_lt_of_le (by decide : 1 < 9) (own_JA r)) : 1 < (([(106 : Int32), (97 : Int32), (118 : Int32), (97 : Int32), (58 : Int32), (97 : Int32), (112 : Int32), (112 : Int32), (47 : Int32)] : List Int32) ++ r).length) (hzc : ¬ (zc = (0 : Int32))) (hfm : fm.isRef = true)) hZ (wd231 hw) (wd6 hw) (by decide) (by decide)) q102a q102c (g := (mkF mi 12 #[.val (.ref x)] [(.int 1), (.ref x)])) rfl (by rw [hml]; rfl) (Steps.refl _) (argsL := [(.int 1)]) (rest := []) (lenOf pd_33 rfl) rfl (Nat.le_of_ble_eq_true rfl) (hb hby dj46_12) (fun _ _ => ⟨rfl, ek101, (by decide : 0 + 0 ≤ _), (by decide : 0 + 0 ≤ _)⟩)
  dsimp only [Pt.U, Pt.locs, Pt.cells, Pt.slots] at X102 l102 y102 z102 st102 hQ102
  subst l102 y102 z102
  obtain ⟨rfl, Nq102, ek102⟩ := hQ102
  have N102 := Fr.app N101 Nq102
  obtain ⟨cq103, kq103, q103a, q103b, q103c⟩ := isOf hZ ek102 (P0_).1
  obtain ⟨v103, _, ⟨T103, L103, k103, n103⟩, -, X103, ⟨Lc103, hQ103, l103, y103, z103⟩, st103⟩ := X102.virtualBack hx (y := mn6) (z := mn6) hown (mvT hZ (wd227 hw)) (mvT hZ (wd228 hw)) (notFace_of_selects (args := #[]) (mvT hZ (wd230 hw))) (mvT hZ (wd230 hw)) (mvT hZ (wd229 hw)) (by decide) (backOf (W := 0) (rm_sch la Z a0 hw [] x (2 : Int32) t (([(106 : Int32), (97 : Int32), (118 : Int32), (97 : Int32), (58 : Int32), (97 : Int32), (112 : Int32), (112 : Int32), (47 : Int32)] : List Int32) ++ r) 2 zc fm hE n0 O P0_ D0_ D1_ (rfl : (2 : Int32) = Int32.ofNat 2) ((Nat.lt_of_lt_of_le (by decide : 2 < 9) (own_JA r)) : 2 < (([(106 : Int32), (97 : Int32), (118 : Int32), (97 : Int32), (58 : Int32), (97 : Int32), (112 : Int32), (112 : Int32), (47 : Int32)] : List Int32) ++ r).length) (hzc : ¬ (zc = (0 : Int32))) (hfm : fm.isRef = true)) hZ (wd231 hw) (wd6 hw) (by decide) (by decide)) q103a q103c (g := (mkF mi 22 #[.val (.ref x)] [(.int 2), (.ref x)])) rfl (by rw [hml]; rfl) (Steps.refl _) (argsL := [(.int 2)]) (rest := []) (lenOf pd_33 rfl) rfl (Nat.le_of_ble_eq_true rfl) (hb hby dj46_22) (fun _ _ => ⟨rfl, ek102, (by decide : 0 + 0 ≤ _), (by decide : 0 + 0 ≤ _)⟩)
  dsimp only [Pt.U, Pt.locs, Pt.cells, Pt.slots] at X103 l103 y103 z103 st103 hQ103
  subst l103 y103 z103
  obtain ⟨rfl, Nq103, ek103⟩ := hQ103
  have N103 := Fr.app N102 Nq103
  obtain ⟨cq104, kq104, q104a, q104b, q104c⟩ := isOf hZ ek103 (P0_).1
  obtain ⟨v104, _, ⟨T104, L104, k104, n104⟩, -, X104, ⟨Lc104, hQ104, l104, y104, z104⟩, st104⟩ := X103.virtualBack hx (y := mn6) (z := mn6) hown (mvT hZ (wd227 hw)) (mvT hZ (wd228 hw)) (notFace_of_selects (args := #[]) (mvT hZ (wd230 hw))) (mvT hZ (wd230 hw)) (mvT hZ (wd229 hw)) (by decide) (backOf (W := 0) (rm_sch la Z a0 hw [] x (3 : Int32) t (([(106 : Int32), (97 : Int32), (118 : Int32), (97 : Int32), (58 : Int32), (97 : Int32), (112 : Int32), (112 : Int32), (47 : Int32)] : List Int32) ++ r) 3 zc fm hE n0 O P0_ D0_ D1_ (rfl : (3 : Int32) = Int32.ofNat 3) ((Nat.lt_of_lt_of_le (by decide : 3 < 9) (own_JA r)) : 3 < (([(106 : Int32), (97 : Int32), (118 : Int32), (97 : Int32), (58 : Int32), (97 : Int32), (112 : Int32), (112 : Int32), (47 : Int32)] : List Int32) ++ r).length) (hzc : ¬ (zc = (0 : Int32))) (hfm : fm.isRef = true)) hZ (wd231 hw) (wd6 hw) (by decide) (by decide)) q104a q104c (g := (mkF mi 32 #[.val (.ref x)] [(.int 3), (.ref x)])) rfl (by rw [hml]; rfl) (Steps.refl _) (argsL := [(.int 3)]) (rest := []) (lenOf pd_33 rfl) rfl (Nat.le_of_ble_eq_true rfl) (hb hby dj46_32) (fun _ _ => ⟨rfl, ek103, (by decide : 0 + 0 ≤ _), (by decide : 0 + 0 ≤ _)⟩)
  dsimp only [Pt.U, Pt.locs, Pt.cells, Pt.slots] at X104 l104 y104 z104 st104 hQ104
  subst l104 y104 z104
  obtain ⟨rfl, Nq104, ek104⟩ := hQ104
  have N104 := Fr.app N103 Nq104
  obtain ⟨cq105, kq105, q105a, q105b, q105c⟩ := isOf hZ ek104 (P0_).1
  obtain ⟨v105, _, ⟨T105, L105, k105, n105⟩, -, X105, ⟨Lc105, hQ105, l105, y105, z105⟩, st105⟩ := X104.virtualBack hx (y := mn6) (z := mn6) hown (mvT hZ (wd227 hw)) (mvT hZ (wd228 hw)) (notFace_of_selects (args := #[]) (mvT hZ (wd230 hw))) (mvT hZ (wd230 hw)) (mvT hZ (wd229 hw)) (by decide) (backOf (W := 0) (rm_sch la Z a0 hw [] x (4 : Int32) t (([(106 : Int32), (97 : Int32), (118 : Int32), (97 : Int32), (58 : Int32), (97 : Int32), (112 : Int32), (112 : Int32), (47 : Int32)] : List Int32) ++ r) 4 zc fm hE n0 O P0_ D0_ D1_ (rfl : (4 : Int32) = Int32.ofNat 4) ((Nat.lt_of_lt_of_le (by decide : 4 < 9) (own_JA r)) : 4 < (([(106 : Int32), (97 : Int32), (118 : Int32), (97 : Int32), (58 : Int32), (97 : Int32), (112 : Int32), (112 : Int32), (47 : Int32)] : List Int32) ++ r).length) (hzc : ¬ (zc = (0 : Int32))) (hfm : fm.isRef = true)) hZ (wd231 hw) (wd6 hw) (by decide) (by decide)) q105a q105c (g := (mkF mi 42 #[.val (.ref x)] [(.int 4), (.ref x)])) rfl (by rw [hml]; rfl) (Steps.refl _) (argsL := [(.int 4)]) (rest := []) (lenOf pd_33 rfl) rfl (Nat.le_of_ble_eq_true rfl) (hb hby dj46_42) (fun _ _ => ⟨rfl, ek104, (by decide : 0 + 0 ≤ _), (by decide : 0 + 0 ≤ _)⟩)
  dsimp only [Pt.U, Pt.locs, Pt.cells, Pt.slots] at X105 l105 y105 z105 st105 hQ105
  subst l105 y105 z105
  obtain ⟨rfl, Nq105, ek105⟩ := hQ105
  have N105 := Fr.app N104 Nq105
  obtain ⟨cq106, kq106, q106a, q106b, q106c⟩ := isOf hZ ek105 (P0_).1
  obtain ⟨v106, _, ⟨T106, L106, k106, n106⟩, -, X106, ⟨Lc106, hQ106, l106, y106, z106⟩, st106⟩ := X105.virtualBack hx (y := mn6) (z := mn6) hown (mvT hZ (wd227 hw)) (mvT hZ (wd228 hw)) (notFace_of_selects (args := #[]) (mvT hZ (wd230 hw))) (mvT hZ (wd230 hw)) (mvT hZ (wd229 hw)) (by decide) (backOf (W := 0) (rm_sch la Z a0 hw [] x (5 : Int32) t (([(106 : Int32), (97 : Int32), (118 : Int32), (97 : Int32), (58 : Int32), (97 : Int32), (112 : Int32), (112 : Int32), (47 : Int32)] : List Int32) ++ r) 5 zc fm hE n0 O P0_ D0_ D1_ (rfl : (5 : Int32) = Int32.ofNat 5) ((Nat.lt_of_lt_of_le (by decide : 5 < 9) (own_JA r)) : 5 < (([(106 : Int32), (97 : Int32), (118 : Int32), (97 : Int32), (58 : Int32), (97 : Int32), (112 : Int32), (112 : Int32), (47 : Int32)] : List Int32) ++ r).length) (hzc : ¬ (zc = (0 : Int32))) (hfm : fm.isRef = true)) hZ (wd231 hw) (wd6 hw) (by decide) (by decide)) q106a q106c (g := (mkF mi 52 #[.val (.ref x)] [(.int 5), (.ref x)])) rfl (by rw [hml]; rfl) (Steps.refl _) (argsL := [(.int 5)]) (rest := []) (lenOf pd_33 rfl) rfl (Nat.le_of_ble_eq_true rfl) (hb hby dj46_52) (fun _ _ => ⟨rfl, ek105, (by decide : 0 + 0 ≤ _), (by decide : 0 + 0 ≤ _)⟩)
  dsimp only [Pt.U, Pt.locs, Pt.cells, Pt.slots] at X106 l106 y106 z106 st106 hQ106
  subst l106 y106 z106
  obtain ⟨rfl, Nq106, ek106⟩ := hQ106
  have N106 := Fr.app N105 Nq106
  obtain ⟨cq107, kq107, q107a, q107b, q107c⟩ := isOf hZ ek106 (P0_).1
  obtain ⟨v107, _, ⟨T107, L107, k107, n107⟩, -, X107, ⟨Lc107, hQ107, l107, y107, z107⟩, st107⟩ := X106.virtualBack hx (y := mn6) (z := mn6) hown (mvT hZ (wd227 hw)) (mvT hZ (wd228 hw)) (notFace_of_selects (args := #[]) (mvT hZ (wd230 hw))) (mvT hZ (wd230 hw)) (mvT hZ (wd229 hw)) (by decide) (backOf (W := 0) (rm_sch la Z a0 hw [] x (6 : Int32) t (([(106 : Int32), (97 : Int32), (118 : Int32), (97 : Int32), (58 : Int32), (97 : Int32), (112 : Int32), (112 : Int32), (47 : Int32)] : List Int32) ++ r) 6 zc fm hE n0 O P0_ D0_ D1_ (rfl : (6 : Int32) = Int32.ofNat 6) ((Nat.lt_of_lt_of_le (by decide : 6 < 9) (own_JA r)) : 6 < (([(106 : Int32), (97 : Int32), (118 : Int32), (97 : Int32), (58 : Int32), (97 : Int32), (112 : Int32), (112 : Int32), (47 : Int32)] : List Int32) ++ r).length) (hzc : ¬ (zc = (0 : Int32))) (hfm : fm.isRef = true)) hZ (wd231 hw) (wd6 hw) (by decide) (by decide)) q107a q107c (g := (mkF mi 63 #[.val (.ref x)] [(.int 6), (.ref x)])) rfl (by rw [hml]; rfl) (Steps.refl _) (argsL := [(.int 6)]) (rest := []) (lenOf pd_33 rfl) rfl (Nat.le_of_ble_eq_true rfl) (hb hby dj46_63) (fun _ _ => ⟨rfl, ek106, (by decide : 0 + 0 ≤ _), (by decide : 0 + 0 ≤ _)⟩)
  dsimp only [Pt.U, Pt.locs, Pt.cells, Pt.slots] at X107 l107 y107 z107 st107 hQ107
  subst l107 y107 z107
  obtain ⟨rfl, Nq107, ek107⟩ := hQ107
  have N107 := Fr.app N106 Nq107
  obtain ⟨cq108, kq108, q108a, q108b, q108c⟩ := isOf hZ ek107 (P0_).1
  obtain ⟨v108, _, ⟨T108, L108, k108, n108⟩, -, X108, ⟨Lc108, hQ108, l108, y108, z108⟩, st108⟩ := X107.virtualBack hx (y := mn6) (z := mn6) hown (mvT hZ (wd227 hw)) (mvT hZ (wd228 hw)) (notFace_of_selects (args := #[]) (mvT hZ (wd230 hw))) (mvT hZ (wd230 hw)) (mvT hZ (wd229 hw)) (by decide) (backOf (W := 0) (rm_sch la Z a0 hw [] x (7 : Int32) t (([(106 : Int32), (97 : Int32), (118 : Int32), (97 : Int32), (58 : Int32), (97 : Int32), (112 : Int32), (112 : Int32), (47 : Int32)] : List Int32) ++ r) 7 zc fm hE n0 O P0_ D0_ D1_ (rfl : (7 : Int32) = Int32.ofNat 7) ((Nat.lt_of_lt_of_le (by decide : 7 < 9) (own_JA r)) : 7 < (([(106 : Int32), (97 : Int32), (118 : Int32), (97 : Int32), (58 : Int32), (97 : Int32), (112 : Int32), (112 : Int32), (47 : Int32)] : List Int32) ++ r).length) (hzc : ¬ (zc = (0 : Int32))) (hfm : fm.isRef = true)) hZ (wd231 hw) (wd6 hw) (by decide) (by decide)) q108a q108c (g := (mkF mi 74 #[.val (.ref x)] [(.int 7), (.ref x)])) rfl (by rw [hml]; rfl) (Steps.refl _) (argsL := [(.int 7)]) (rest := []) (lenOf pd_33 rfl) rfl (Nat.le_of_ble_eq_true rfl) (hb hby dj46_74) (fun _ _ => ⟨rfl, ek107, (by decide : 0 + 0 ≤ _), (by decide : 0 + 0 ≤ _)⟩)
  dsimp only [Pt.U, Pt.locs, Pt.cells, Pt.slots] at X108 l108 y108 z108 st108 hQ108
  subst l108 y108 z108
  obtain ⟨rfl, Nq108, ek108⟩ := hQ108
  have N108 := Fr.app N107 Nq108
  obtain ⟨cq109, kq109, q109a, q109b, q109c⟩ := isOf hZ ek108 (P0_).1
  obtain ⟨v109, _, ⟨T109, L109, k109, n109⟩, -, X109, ⟨Lc109, hQ109, l109, y109, z109⟩, st109⟩ := X108.virtualBack hx (y := mn6) (z := mn6) hown (mvT hZ (wd227 hw)) (mvT hZ (wd228 hw)) (notFace_of_selects (args := #[]) (mvT hZ (wd230 hw))) (mvT hZ (wd230 hw)) (mvT hZ (wd229 hw)) (by decide) (backOf (W := 0) (rm_sch la Z a0 hw [] x (8 : Int32) t (([(106 : Int32), (97 : Int32), (118 : Int32), (97 : Int32), (58 : Int32), (97 : Int32), (112 : Int32), (112 : Int32), (47 : Int32)] : List Int32) ++ r) 8 zc fm hE n0 O P0_ D0_ D1_ (rfl : (8 : Int32) = Int32.ofNat 8) ((Nat.lt_of_lt_of_le (by decide : 8 < 9) (own_JA r)) : 8 < (([(106 : Int32), (97 : Int32), (118 : Int32), (97 : Int32), (58 : Int32), (97 : Int32), (112 : Int32), (112 : Int32), (47 : Int32)] : List Int32) ++ r).length) (hzc : ¬ (zc = (0 : Int32))) (hfm : fm.isRef = true)) hZ (wd231 hw) (wd6 hw) (by decide) (by decide)) q109a q109c (g := (mkF mi 85 #[.val (.ref x)] [(.int 8), (.ref x)])) rfl (by rw [hml]; rfl) (Steps.refl _) (argsL := [(.int 8)]) (rest := []) (lenOf pd_33 rfl) rfl (Nat.le_of_ble_eq_true rfl) (hb hby dj46_85) (fun _ _ => ⟨rfl, ek108, (by decide : 0 + 0 ≤ _), (by decide : 0 + 0 ≤ _)⟩)
  dsimp only [Pt.U, Pt.locs, Pt.cells, Pt.slots] at X109 l109 y109 z109 st109 hQ109
  subst l109 y109 z109
  obtain ⟨rfl, Nq109, ek109⟩ := hQ109
  have N109 := Fr.app N108 Nq109
  obtain ⟨fs, hr, hrun, hended, hW, hsame⟩ := X109.leave (v := some (.int 1)) (fun hq => by rw [Bd.returns] at hq; cases hq)
  refine ⟨_, _, pre0 _ ?_, hrun, hended, _, _, rfl, ?_, ⟨_, rfl⟩, hW, hsame.mono (by decide) (by decide)⟩
  · show SP pg ev below (s₁.setTop (mkF mi 0 #[.val (.ref x)] [])) _
    refine XS.aloadN X0.here hx rfl (hb hby dj46_0) rfl rfl ?_
    refine XS.iconst X0.here hx rfl (hb hby dj46_1) ?_
    refine st101.trans ?_
    refine XS.bipush X101.here hx rfl (hb hby dj46_5) ?_
    refine XS.icmpNo X101.here hx rfl (hb hby dj46_7) rfl (teq rfl).2 ?_
    refine XS.aloadN X101.here hx rfl (hb hby dj46_10) rfl rfl ?_
    refine XS.iconst X101.here hx rfl (hb hby dj46_11) ?_
    refine st102.trans ?_
    refine XS.bipush X102.here hx rfl (hb hby dj46_15) ?_
    refine XS.icmpNo X102.here hx rfl (hb hby dj46_17) rfl (teq rfl).2 ?_
    refine XS.aloadN X102.here hx rfl (hb hby dj46_20) rfl rfl ?_
    refine XS.iconst X102.here hx rfl (hb hby dj46_21) ?_
    refine st103.trans ?_
    refine XS.bipush X103.here hx rfl (hb hby dj46_25) ?_
    refine XS.icmpNo X103.here hx rfl (hb hby dj46_27) rfl (teq rfl).2 ?_
    refine XS.aloadN X103.here hx rfl (hb hby dj46_30) rfl rfl ?_
    refine XS.iconst X103.here hx rfl (hb hby dj46_31) ?_
    refine st104.trans ?_
    refine XS.bipush X104.here hx rfl (hb hby dj46_35) ?_
    refine XS.icmpNo X104.here hx rfl (hb hby dj46_37) rfl (teq rfl).2 ?_
    refine XS.aloadN X104.here hx rfl (hb hby dj46_40) rfl rfl ?_
    refine XS.iconst X104.here hx rfl (hb hby dj46_41) ?_
    refine st105.trans ?_
    refine XS.bipush X105.here hx rfl (hb hby dj46_45) ?_
    refine XS.icmpNo X105.here hx rfl (hb hby dj46_47) rfl (teq rfl).2 ?_
    refine XS.aloadN X105.here hx rfl (hb hby dj46_50) rfl rfl ?_
    refine XS.iconst X105.here hx rfl (hb hby dj46_51) ?_
    refine st106.trans ?_
    refine XS.bipush X106.here hx rfl (hb hby dj46_55) ?_
    refine XS.icmpNo X106.here hx rfl (hb hby dj46_57) rfl (teq rfl).2 ?_
    refine XS.aloadN X106.here hx rfl (hb hby dj46_60) rfl rfl ?_
    refine XS.bipush X106.here hx rfl (hb hby dj46_61) ?_
    refine st107.trans ?_
    refine XS.bipush X107.here hx rfl (hb hby dj46_66) ?_
    refine XS.icmpNo X107.here hx rfl (hb hby dj46_68) rfl (teq rfl).2 ?_
    refine XS.aloadN X107.here hx rfl (hb hby dj46_71) rfl rfl ?_
    refine XS.bipush X107.here hx rfl (hb hby dj46_72) ?_
    refine st108.trans ?_
    refine XS.bipush X108.here hx rfl (hb hby dj46_77) ?_
    refine XS.icmpNo X108.here hx rfl (hb hby dj46_79) rfl (teq rfl).2 ?_
    show SP pg ev below (T108.setTop (mkF mi 82 #[.val (.ref x)] [])) _
    refine XS.aloadN X108.here hx rfl (hb hby dj46_82) rfl rfl ?_
    refine XS.bipush X108.here hx rfl (hb hby dj46_83) ?_
    refine st109.trans ?_
    refine XS.bipush X109.here hx rfl (hb hby dj46_88) ?_
    refine XS.icmpNo X109.here hx rfl (hb hby dj46_90) rfl (teq rfl).2 ?_
    refine XS.iconst X109.here hx rfl (hb hby dj46_93) ?_
    refine XS.goto X109.here hx rfl (pc0 := 94) (pc' := 98) rfl (hb hby dj46_94) (by decide) (by decide) ?_
    show SP pg ev below (T109.setTop (mkF mi 98 #[.val (.ref x)] [(.int 1)])) _
    exact retN X109 hx (t := .boolean) Bd.returns (by simp) (hb hby dj46_98) hr
  · show Q_pok Z x t r zc fm hE n0 _ T109.heap _
    rw [ek109]
    exact ⟨rfl, N109, rfl⟩
theorem sw_pm {la : Launch} {Z : State} {a0 : Array Value} (hw : HW a0 Z) (xs ts : Addr) (ll : List Int32) (cc dd ff zc : Int32) (fm : Value) (s0 s1 s2 s3 s7 s8 s9 s10 s11 s12 s13 s14 s15 s16 s17 s19 s20 s21 s23 s24 : Slot) (hE : Heap) (n0 : Nat) {pg : Program} {ev : Env} {sb : State} {mi : MethodId} {aa : Array Value} {below : List Frame} {me : Method} {cd : Code} {s₁ : State} {ls : List Loc} (X0 : Stand pg la ev room_1 sb mi aa below me cd s₁ ls 70 10000) (hx : pg.tables.exec = Jvm.exec) (hby : cd.code = code) (hml : cd.maxLocals = 25) (hZ : Z.Warmed39 sb.vm) (hown : sb.vm.findClass c3_ = some mi.cls) (eE : s₁.heap = hE) (N0 : Fr n0 ls) (O : Old Z n0 hE) (P0_ : LStr Z hE xs ts ll) (D0_ : Sta Z Z.heap c1_ c5_ "Z" (.int zc)) (D1_ : Sta Z Z.heap c10_ c21_ c12_ fm) (g0 : 9 < ll.length ∧ ll.getD 9 0 = cc) (g1 : ¬ (ff = (0 : Int32)) → 10 < ll.length ∧ ll.getD 10 0 = dd) (hzc : ¬ (zc = (0 : Int32))) (hfm : fm.isRef = true) :
    ∃ (T' : State) (h' : Heap) (L' : List Loc), Stand pg la ev room_1 sb mi aa below me cd T' L' (70) (10000) ∧ T'.heap = h' ∧ Fr n0 L' ∧ Keep hE h' [] ∧ ∀ tt, SP pg ev below (T'.setTop (mkF mi 362 #[s0, s1, s2, s3, .val (.int cc), .val (.int dd), .val (.int ff), s7, s8, s9, s10, s11, s12, s13, s14, s15, s16, s17, .val (.ref xs), s19, s20, s21, .val (.int 1), s23, s24] [])) tt → SP pg ev below (s₁.setTop (mkF mi 326 #[s0, s1, s2, s3, .val (.int cc), .val (.int dd), .val (.int ff), s7, s8, s9, s10, s11, s12, s13, s14, s15, s16, s17, .val (.ref xs), s19, s20, s21, .val (.int 1), s23, s24] [])) tt := by
  have pre0 : ∀ tt, SP pg ev below (s₁.setTop (mkF mi 326 #[s0, s1, s2, s3, .val (.int cc), .val (.int dd), .val (.int ff), s7, s8, s9, s10, s11, s12, s13, s14, s15, s16, s17, .val (.ref xs), s19, s20, s21, .val (.int 1), s23, s24] [])) tt → SP pg ev below (s₁.setTop (mkF mi 326 #[s0, s1, s2, s3, .val (.int cc), .val (.int dd), .val (.int ff), s7, s8, s9, s10, s11, s12, s13, s14, s15, s16, s17, .val (.ref xs), s19, s20, s21, .val (.int 1), s23, s24] [])) tt := fun tt kk => kk
  obtain ⟨cq101, kq101, q101a, q101b, q101c⟩ := isOf hZ eE (P0_).1
  obtain ⟨v101, _, ⟨T101, L101, k101, n101⟩, -, X101, ⟨Lc101, hQ101, l101, y101, z101⟩, st101⟩ := X0.virtualBack hx (y := mn6) (z := mn6) hown (mvT hZ (wd227 hw)) (mvT hZ (wd228 hw)) (notFace_of_selects (args := #[]) (mvT hZ (wd230 hw))) (mvT hZ (wd230 hw)) (mvT hZ (wd229 hw)) (by decide) (backOf (W := 0) (rm_sch la Z a0 hw [] xs (9 : Int32) ts ll 9 zc fm hE n0 O P0_ D0_ D1_ (rfl : (9 : Int32) = Int32.ofNat 9) (g0.1 : 9 < ll.length) (hzc : ¬ (zc = (0 : Int32))) (hfm : fm.isRef = true)) hZ (wd231 hw) (wd6 hw) (by decide) (by decide)) q101a q101c (g := (mkF mi 330 #[s0, s1, s2, s3, .val (.int cc), .val (.int dd), .val (.int ff), s7, s8, s9, s10, s11, s12, s13, s14, s15, s16, s17, .val (.ref xs), s19, s20, s21, .val (.int 1), s23, s24] [(.int 9), (.ref xs)])) rfl (by rw [hml]; rfl) (Steps.refl _) (argsL := [(.int 9)]) (rest := []) (lenOf pd_33 rfl) rfl (Nat.le_of_ble_eq_true rfl) (hb hby at_330) (fun _ _ => ⟨rfl, eE, (by decide : 70 + 0 ≤ _), (by decide : 10000 + 0 ≤ _)⟩)
  dsimp only [Pt.U, Pt.locs, Pt.cells, Pt.slots] at X101 l101 y101 z101 st101 hQ101
  subst l101 y101 z101
  obtain ⟨rfl, Nq101, ek101⟩ := hQ101
  have N101 := Fr.app N0 Nq101
  have pre103 : ∀ tt, SP pg ev below (T101.setTop (mkF mi 340 #[s0, s1, s2, s3, .val (.int cc), .val (.int dd), .val (.int ff), s7, s8, s9, s10, s11, s12, s13, s14, s15, s16, s17, .val (.ref xs), s19, s20, s21, .val (.int 1), s23, s24] [(.int ff)])) tt → SP pg ev below (s₁.setTop (mkF mi 326 #[s0, s1, s2, s3, .val (.int cc), .val (.int dd), .val (.int ff), s7, s8, s9, s10, s11, s12, s13, s14, s15, s16, s17, .val (.ref xs), s19, s20, s21, .val (.int 1), s23, s24] [])) tt := fun tt kk => pre0 _ (by
    show SP pg ev below (s₁.setTop (mkF mi 326 #[s0, s1, s2, s3, .val (.int cc), .val (.int dd), .val (.int ff), s7, s8, s9, s10, s11, s12, s13, s14, s15, s16, s17, .val (.ref xs), s19, s20, s21, .val (.int 1), s23, s24] [])) _
    refine XS.aload X0.here hx rfl (hb hby at_326) rfl rfl ?_
    refine XS.bipush X0.here hx rfl (hb hby at_328) ?_
    refine st101.trans ?_
    refine XS.iload X101.here hx rfl (hb hby at_333) rfl ?_
    refine XS.icmpNo X101.here hx rfl (hb hby at_335) rfl (teq g0.2).2 ?_
    refine XS.iload X101.here hx rfl (hb hby at_338) rfl ?_
    exact kk)
  by_cases hc102 : ff = (0 : Int32)
  · have pre104 : ∀ tt, SP pg ev below (T101.setTop (mkF mi 362 #[s0, s1, s2, s3, .val (.int cc), .val (.int dd), .val (.int ff), s7, s8, s9, s10, s11, s12, s13, s14, s15, s16, s17, .val (.ref xs), s19, s20, s21, .val (.int 1), s23, s24] [])) tt → SP pg ev below (s₁.setTop (mkF mi 326 #[s0, s1, s2, s3, .val (.int cc), .val (.int dd), .val (.int ff), s7, s8, s9, s10, s11, s12, s13, s14, s15, s16, s17, .val (.ref xs), s19, s20, s21, .val (.int 1), s23, s24] [])) tt := fun tt kk => pre103 _ (by
      show SP pg ev below (T101.setTop (mkF mi 340 #[s0, s1, s2, s3, .val (.int cc), .val (.int dd), .val (.int ff), s7, s8, s9, s10, s11, s12, s13, s14, s15, s16, s17, .val (.ref xs), s19, s20, s21, .val (.int 1), s23, s24] [(.int ff)])) _
      refine XS.ifYes X101.here hx rfl (pc0 := 340) (pc' := 355) rfl (hb hby at_340) rfl ((if0 _ _).trans (teq hc102).1) (by decide) (by decide) ?_
      refine XS.iconst X101.here hx rfl (hb hby at_355) ?_
      refine XS.goto X101.here hx rfl (pc0 := 356) (pc' := 360) rfl (hb hby at_356) (by decide) (by decide) ?_
      refine XS.istore X101.here hx rfl (hb hby at_360) rfl (l' := #[s0, s1, s2, s3, .val (.int cc), .val (.int dd), .val (.int ff), s7, s8, s9, s10, s11, s12, s13, s14, s15, s16, s17, .val (.ref xs), s19, s20, s21, .val (.int 1), s23, s24]) rfl ?_
      exact kk)
    exact ⟨_, _, _, X101, ek101, N101, (Keep.refl hE []), fun tt kk => pre104 tt kk⟩
  · obtain ⟨cq105, kq105, q105a, q105b, q105c⟩ := isOf hZ ek101 (P0_).1
    obtain ⟨v105, _, ⟨T105, L105, k105, n105⟩, -, X105, ⟨Lc105, hQ105, l105, y105, z105⟩, st105⟩ := X101.virtualBack hx (y := mn6) (z := mn6) hown (mvT hZ (wd227 hw)) (mvT hZ (wd228 hw)) (notFace_of_selects (args := #[]) (mvT hZ (wd230 hw))) (mvT hZ (wd230 hw)) (mvT hZ (wd229 hw)) (by decide) (backOf (W := 0) (rm_sch la Z a0 hw [] xs (10 : Int32) ts ll 10 zc fm hE n0 O P0_ D0_ D1_ (rfl : (10 : Int32) = Int32.ofNat 10) ((g1 hc102).1 : 10 < ll.length) (hzc : ¬ (zc = (0 : Int32))) (hfm : fm.isRef = true)) hZ (wd231 hw) (wd6 hw) (by decide) (by decide)) q105a q105c (g := (mkF mi 347 #[s0, s1, s2, s3, .val (.int cc), .val (.int dd), .val (.int ff), s7, s8, s9, s10, s11, s12, s13, s14, s15, s16, s17, .val (.ref xs), s19, s20, s21, .val (.int 1), s23, s24] [(.int 10), (.ref xs)])) rfl (by rw [hml]; rfl) (Steps.refl _) (argsL := [(.int 10)]) (rest := []) (lenOf pd_33 rfl) rfl (Nat.le_of_ble_eq_true rfl) (hb hby at_347) (fun _ _ => ⟨rfl, ek101, (by decide : 70 + 0 ≤ _), (by decide : 10000 + 0 ≤ _)⟩)
    dsimp only [Pt.U, Pt.locs, Pt.cells, Pt.slots] at X105 l105 y105 z105 st105 hQ105
    subst l105 y105 z105
    obtain ⟨rfl, Nq105, ek105⟩ := hQ105
    have N105 := Fr.app N101 Nq105
    have pre106 : ∀ tt, SP pg ev below (T105.setTop (mkF mi 362 #[s0, s1, s2, s3, .val (.int cc), .val (.int dd), .val (.int ff), s7, s8, s9, s10, s11, s12, s13, s14, s15, s16, s17, .val (.ref xs), s19, s20, s21, .val (.int 1), s23, s24] [])) tt → SP pg ev below (s₁.setTop (mkF mi 326 #[s0, s1, s2, s3, .val (.int cc), .val (.int dd), .val (.int ff), s7, s8, s9, s10, s11, s12, s13, s14, s15, s16, s17, .val (.ref xs), s19, s20, s21, .val (.int 1), s23, s24] [])) tt := fun tt kk => pre103 _ (by
      show SP pg ev below (T101.setTop (mkF mi 340 #[s0, s1, s2, s3, .val (.int cc), .val (.int dd), .val (.int ff), s7, s8, s9, s10, s11, s12, s13, s14, s15, s16, s17, .val (.ref xs), s19, s20, s21, .val (.int 1), s23, s24] [(.int ff)])) _
      refine XS.ifNo X101.here hx rfl (hb hby at_340) rfl ((if0 _ _).trans (feq hc102).1) ?_
      refine XS.aload X101.here hx rfl (hb hby at_343) rfl rfl ?_
      refine XS.bipush X101.here hx rfl (hb hby at_345) ?_
      refine st105.trans ?_
      refine XS.iload X105.here hx rfl (hb hby at_350) rfl ?_
      refine XS.icmpNo X105.here hx rfl (hb hby at_352) rfl (teq (g1 hc102).2).2 ?_
      refine XS.iconst X105.here hx rfl (hb hby at_355) ?_
      refine XS.goto X105.here hx rfl (pc0 := 356) (pc' := 360) rfl (hb hby at_356) (by decide) (by decide) ?_
      refine XS.istore X105.here hx rfl (hb hby at_360) rfl (l' := #[s0, s1, s2, s3, .val (.int cc), .val (.int dd), .val (.int ff), s7, s8, s9, s10, s11, s12, s13, s14, s15, s16, s17, .val (.ref xs), s19, s20, s21, .val (.int 1), s23, s24]) rfl ?_
      exact kk)
    exact ⟨_, _, _, X105, ek105, N105, (Keep.refl hE []), fun tt kk => pre106 tt kk⟩
theorem sw_pb {la : Launch} {Z : State} {a0 : Array Value} (hw : HW a0 Z) (xs ts : Addr) (ll : List Int32) (cc dd ff nn : Int32) (k : Nat) (zc : Int32) (fm : Value) (s0 s1 s2 s3 s4 s5 s6 s10 s11 s12 s13 s14 s15 s16 s17 s19 s20 s21 s24 : Slot) (hE : Heap) (n0 : Nat) {pg : Program} {ev : Env} {sb : State} {mi : MethodId} {aa : Array Value} {below : List Frame} {me : Method} {cd : Code} {s₁ : State} {ls : List Loc} (X0 : Stand pg la ev room_1 sb mi aa below me cd s₁ ls 70 10000) (hx : pg.tables.exec = Jvm.exec) (hby : cd.code = code) (hml : cd.maxLocals = 25) (hZ : Z.Warmed39 sb.vm) (hown : sb.vm.findClass c3_ = some mi.cls) (eE : s₁.heap = hE) (N0 : Fr n0 ls) (O : Old Z n0 hE) (P0_ : LStr Z hE xs ts ll) (D0_ : Sta Z Z.heap c1_ c5_ "Z" (.int zc)) (D1_ : Sta Z Z.heap c10_ c21_ c12_ fm) (en : nn = Int32.ofNat k) (g0 : (k < ll.length ∧ ll.getD k 0 = (47 : Int32)) ∧ (k + 1 < ll.length ∧ ll.getD (k + 1) 0 = cc)) (g1 : ¬ (ff = (0 : Int32)) → k + 2 < ll.length ∧ ll.getD (k + 2) 0 = dd) (hzc : ¬ (zc = (0 : Int32))) (hfm : fm.isRef = true) :
    ∃ (T' : State) (h' : Heap) (L' : List Loc), Stand pg la ev room_1 sb mi aa below me cd T' L' (70) (10000) ∧ T'.heap = h' ∧ Fr n0 L' ∧ Keep hE h' [] ∧ ∀ tt, SP pg ev below (T'.setTop (mkF mi 426 #[s0, s1, s2, s3, s4, s5, s6, .val (.int cc), .val (.int dd), .val (.int ff), s10, s11, s12, s13, s14, s15, s16, s17, .val (.ref xs), s19, s20, s21, .val (.int 1), .val (.int nn), s24] [])) tt → SP pg ev below (s₁.setTop (mkF mi 374 #[s0, s1, s2, s3, s4, s5, s6, .val (.int cc), .val (.int dd), .val (.int ff), s10, s11, s12, s13, s14, s15, s16, s17, .val (.ref xs), s19, s20, s21, .val (.int 1), .val (.int nn), s24] [])) tt := by
  have pre0 : ∀ tt, SP pg ev below (s₁.setTop (mkF mi 374 #[s0, s1, s2, s3, s4, s5, s6, .val (.int cc), .val (.int dd), .val (.int ff), s10, s11, s12, s13, s14, s15, s16, s17, .val (.ref xs), s19, s20, s21, .val (.int 1), .val (.int nn), s24] [])) tt → SP pg ev below (s₁.setTop (mkF mi 374 #[s0, s1, s2, s3, s4, s5, s6, .val (.int cc), .val (.int dd), .val (.int ff), s10, s11, s12, s13, s14, s15, s16, s17, .val (.ref xs), s19, s20, s21, .val (.int 1), .val (.int nn), s24] [])) tt := fun tt kk => kk
  obtain ⟨cq101, kq101, q101a, q101b, q101c⟩ := isOf hZ eE (P0_).1
  obtain ⟨v101, _, ⟨T101, L101, k101, n101⟩, -, X101, ⟨Lc101, hQ101, l101, y101, z101⟩, st101⟩ := X0.virtualBack hx (y := mn6) (z := mn6) hown (mvT hZ (wd227 hw)) (mvT hZ (wd228 hw)) (notFace_of_selects (args := #[]) (mvT hZ (wd230 hw))) (mvT hZ (wd230 hw)) (mvT hZ (wd229 hw)) (by decide) (backOf (W := 0) (rm_sch la Z a0 hw [] xs nn ts ll k zc fm hE n0 O P0_ D0_ D1_ (en : nn = Int32.ofNat k) (g0.1.1 : k < ll.length) (hzc : ¬ (zc = (0 : Int32))) (hfm : fm.isRef = true)) hZ (wd231 hw) (wd6 hw) (by decide) (by decide)) q101a q101c (g := (mkF mi 378 #[s0, s1, s2, s3, s4, s5, s6, .val (.int cc), .val (.int dd), .val (.int ff), s10, s11, s12, s13, s14, s15, s16, s17, .val (.ref xs), s19, s20, s21, .val (.int 1), .val (.int nn), s24] [(.int nn), (.ref xs)])) rfl (by rw [hml]; rfl) (Steps.refl _) (argsL := [(.int nn)]) (rest := []) (lenOf pd_33 rfl) rfl (Nat.le_of_ble_eq_true rfl) (hb hby at_378) (fun _ _ => ⟨rfl, eE, (by decide : 70 + 0 ≤ _), (by decide : 10000 + 0 ≤ _)⟩)
  dsimp only [Pt.U, Pt.locs, Pt.cells, Pt.slots] at X101 l101 y101 z101 st101 hQ101
  subst l101 y101 z101
  obtain ⟨rfl, Nq101, ek101⟩ := hQ101
  have N101 := Fr.app N0 Nq101
  obtain ⟨cq102, kq102, q102a, q102b, q102c⟩ := isOf hZ ek101 (P0_).1
  obtain ⟨v102, _, ⟨T102, L102, k102, n102⟩, -, X102, ⟨Lc102, hQ102, l102, y102, z102⟩, st102⟩ := X101.virtualBack hx (y := mn6) (z := mn6) hown (mvT hZ (wd227 hw)) (mvT hZ (wd228 hw)) (notFace_of_selects (args := #[]) (mvT hZ (wd230 hw))) (mvT hZ (wd230 hw)) (mvT hZ (wd229 hw)) (by decide) (backOf (W := 0) (rm_sch la Z a0 hw [] xs (nn + (1 : Int32)) ts ll (k + 1) zc fm hE n0 O P0_ D0_ D1_ (own_ix1 en : (nn + (1 : Int32)) = Int32.ofNat (k + 1)) (g0.2.1 : (k + 1) < ll.length) (hzc : ¬ (zc = (0 : Int32))) (hfm : fm.isRef = true)) hZ (wd231 hw) (wd6 hw) (by decide) (by decide)) q102a q102c (g := (mkF mi 392 #[s0, s1, s2, s3, s4, s5, s6, .val (.int cc), .val (.int dd), .val (.int ff), s10, s11, s12, s13, s14, s15, s16, s17, .val (.ref xs), s19, s20, s21, .val (.int 1), .val (.int nn), s24] [(.int (nn + (1 : Int32))), (.ref xs)])) rfl (by rw [hml]; rfl) (Steps.refl _) (argsL := [(.int (nn + (1 : Int32)))]) (rest := []) (lenOf pd_33 rfl) rfl (Nat.le_of_ble_eq_true rfl) (hb hby at_392) (fun _ _ => ⟨rfl, ek101, (by decide : 70 + 0 ≤ _), (by decide : 10000 + 0 ≤ _)⟩)
  dsimp only [Pt.U, Pt.locs, Pt.cells, Pt.slots] at X102 l102 y102 z102 st102 hQ102
  subst l102 y102 z102
  obtain ⟨rfl, Nq102, ek102⟩ := hQ102
  have N102 := Fr.app N101 Nq102
  have pre104 : ∀ tt, SP pg ev below (T102.setTop (mkF mi 402 #[s0, s1, s2, s3, s4, s5, s6, .val (.int cc), .val (.int dd), .val (.int ff), s10, s11, s12, s13, s14, s15, s16, s17, .val (.ref xs), s19, s20, s21, .val (.int 1), .val (.int nn), s24] [(.int ff)])) tt → SP pg ev below (s₁.setTop (mkF mi 374 #[s0, s1, s2, s3, s4, s5, s6, .val (.int cc), .val (.int dd), .val (.int ff), s10, s11, s12, s13, s14, s15, s16, s17, .val (.ref xs), s19, s20, s21, .val (.int 1), .val (.int nn), s24] [])) tt := fun tt kk => pre0 _ (by
    show SP pg ev below (s₁.setTop (mkF mi 374 #[s0, s1, s2, s3, s4, s5, s6, .val (.int cc), .val (.int dd), .val (.int ff), s10, s11, s12, s13, s14, s15, s16, s17, .val (.ref xs), s19, s20, s21, .val (.int 1), .val (.int nn), s24] [])) _
    refine XS.aload X0.here hx rfl (hb hby at_374) rfl rfl ?_
    refine XS.iload X0.here hx rfl (hb hby at_376) rfl ?_
    refine st101.trans ?_
    refine XS.bipush X101.here hx rfl (hb hby at_381) ?_
    refine XS.icmpNo X101.here hx rfl (hb hby at_383) rfl (teq g0.1.2).2 ?_
    refine XS.aload X101.here hx rfl (hb hby at_386) rfl rfl ?_
    refine XS.iload X101.here hx rfl (hb hby at_388) rfl ?_
    refine XS.iconst X101.here hx rfl (hb hby at_390) ?_
    refine XS.iadd X101.here hx rfl (hb hby at_391) rfl ?_
    refine st102.trans ?_
    refine XS.iload X102.here hx rfl (hb hby at_395) rfl ?_
    refine XS.icmpNo X102.here hx rfl (hb hby at_397) rfl (teq g0.2.2).2 ?_
    refine XS.iload X102.here hx rfl (hb hby at_400) rfl ?_
    exact kk)
  by_cases hc103 : ff = (0 : Int32)
  · have pre105 : ∀ tt, SP pg ev below (T102.setTop (mkF mi 426 #[s0, s1, s2, s3, s4, s5, s6, .val (.int cc), .val (.int dd), .val (.int ff), s10, s11, s12, s13, s14, s15, s16, s17, .val (.ref xs), s19, s20, s21, .val (.int 1), .val (.int nn), s24] [])) tt → SP pg ev below (s₁.setTop (mkF mi 374 #[s0, s1, s2, s3, s4, s5, s6, .val (.int cc), .val (.int dd), .val (.int ff), s10, s11, s12, s13, s14, s15, s16, s17, .val (.ref xs), s19, s20, s21, .val (.int 1), .val (.int nn), s24] [])) tt := fun tt kk => pre104 _ (by
      show SP pg ev below (T102.setTop (mkF mi 402 #[s0, s1, s2, s3, s4, s5, s6, .val (.int cc), .val (.int dd), .val (.int ff), s10, s11, s12, s13, s14, s15, s16, s17, .val (.ref xs), s19, s20, s21, .val (.int 1), .val (.int nn), s24] [(.int ff)])) _
      refine XS.ifYes X102.here hx rfl (pc0 := 402) (pc' := 419) rfl (hb hby at_402) rfl ((if0 _ _).trans (teq hc103).1) (by decide) (by decide) ?_
      refine XS.iconst X102.here hx rfl (hb hby at_419) ?_
      refine XS.goto X102.here hx rfl (pc0 := 420) (pc' := 424) rfl (hb hby at_420) (by decide) (by decide) ?_
      refine XS.istore X102.here hx rfl (hb hby at_424) rfl (l' := #[s0, s1, s2, s3, s4, s5, s6, .val (.int cc), .val (.int dd), .val (.int ff), s10, s11, s12, s13, s14, s15, s16, s17, .val (.ref xs), s19, s20, s21, .val (.int 1), .val (.int nn), s24]) rfl ?_
      exact kk)
    exact ⟨_, _, _, X102, ek102, N102, (Keep.refl hE []), fun tt kk => pre105 tt kk⟩
  · obtain ⟨cq106, kq106, q106a, q106b, q106c⟩ := isOf hZ ek102 (P0_).1
    obtain ⟨v106, _, ⟨T106, L106, k106, n106⟩, -, X106, ⟨Lc106, hQ106, l106, y106, z106⟩, st106⟩ := X102.virtualBack hx (y := mn6) (z := mn6) hown (mvT hZ (wd227 hw)) (mvT hZ (wd228 hw)) (notFace_of_selects (args := #[]) (mvT hZ (wd230 hw))) (mvT hZ (wd230 hw)) (mvT hZ (wd229 hw)) (by decide) (backOf (W := 0) (rm_sch la Z a0 hw [] xs (nn + (2 : Int32)) ts ll (k + 2) zc fm hE n0 O P0_ D0_ D1_ (own_ix2 en : (nn + (2 : Int32)) = Int32.ofNat (k + 2)) ((g1 hc103).1 : (k + 2) < ll.length) (hzc : ¬ (zc = (0 : Int32))) (hfm : fm.isRef = true)) hZ (wd231 hw) (wd6 hw) (by decide) (by decide)) q106a q106c (g := (mkF mi 411 #[s0, s1, s2, s3, s4, s5, s6, .val (.int cc), .val (.int dd), .val (.int ff), s10, s11, s12, s13, s14, s15, s16, s17, .val (.ref xs), s19, s20, s21, .val (.int 1), .val (.int nn), s24] [(.int (nn + (2 : Int32))), (.ref xs)])) rfl (by rw [hml]; rfl) (Steps.refl _) (argsL := [(.int (nn + (2 : Int32)))]) (rest := []) (lenOf pd_33 rfl) rfl (Nat.le_of_ble_eq_true rfl) (hb hby at_411) (fun _ _ => ⟨rfl, ek102, (by decide : 70 + 0 ≤ _), (by decide : 10000 + 0 ≤ _)⟩)
    dsimp only [Pt.U, Pt.locs, Pt.cells, Pt.slots] at X106 l106 y106 z106 st106 hQ106
    subst l106 y106 z106
    obtain ⟨rfl, Nq106, ek106⟩ := hQ106
    have N106 := Fr.app N102 Nq106
    have pre107 : ∀ tt, SP pg ev below (T106.setTop (mkF mi 426 #[s0, s1, s2, s3, s4, s5, s6, .val (.int cc), .val (.int dd), .val (.int ff), s10, s11, s12, s13, s14, s15, s16, s17, .val (.ref xs), s19, s20, s21, .val (.int 1), .val (.int nn), s24] [])) tt → SP pg ev below (s₁.setTop (mkF mi 374 #[s0, s1, s2, s3, s4, s5, s6, .val (.int cc), .val (.int dd), .val (.int ff), s10, s11, s12, s13, s14, s15, s16, s17, .val (.ref xs), s19, s20, s21, .val (.int 1), .val (.int nn), s24] [])) tt := fun tt kk => pre104 _ (by
      show SP pg ev below (T102.setTop (mkF mi 402 #[s0, s1, s2, s3, s4, s5, s6, .val (.int cc), .val (.int dd), .val (.int ff), s10, s11, s12, s13, s14, s15, s16, s17, .val (.ref xs), s19, s20, s21, .val (.int 1), .val (.int nn), s24] [(.int ff)])) _
      refine XS.ifNo X102.here hx rfl (hb hby at_402) rfl ((if0 _ _).trans (feq hc103).1) ?_
      refine XS.aload X102.here hx rfl (hb hby at_405) rfl rfl ?_
      refine XS.iload X102.here hx rfl (hb hby at_407) rfl ?_
      refine XS.iconst X102.here hx rfl (hb hby at_409) ?_
      refine XS.iadd X102.here hx rfl (hb hby at_410) rfl ?_
      refine st106.trans ?_
      refine XS.iload X106.here hx rfl (hb hby at_414) rfl ?_
      refine XS.icmpNo X106.here hx rfl (hb hby at_416) rfl (teq (g1 hc103).2).2 ?_
      refine XS.iconst X106.here hx rfl (hb hby at_419) ?_
      refine XS.goto X106.here hx rfl (pc0 := 420) (pc' := 424) rfl (hb hby at_420) (by decide) (by decide) ?_
      refine XS.istore X106.here hx rfl (hb hby at_424) rfl (l' := #[s0, s1, s2, s3, s4, s5, s6, .val (.int cc), .val (.int dd), .val (.int ff), s10, s11, s12, s13, s14, s15, s16, s17, .val (.ref xs), s19, s20, s21, .val (.int 1), .val (.int nn), s24]) rfl ?_
      exact kk)
    exact ⟨_, _, _, X106, ek106, N106, (Keep.refl hE []), fun tt kk => pre107 tt kk⟩
theorem sw_pv {la : Launch} {Z : State} {a0 : Array Value} (hw : HW a0 Z) (xs ts : Addr) (ll : List Int32) (cc dd ff nn : Int32) (k : Nat) (zc : Int32) (fm : Value) (s0 s1 s2 s3 s4 s5 s6 s7 s8 s9 s13 s14 s15 s16 s17 s19 s20 s21 s23 : Slot) (hE : Heap) (n0 : Nat) {pg : Program} {ev : Env} {sb : State} {mi : MethodId} {aa : Array Value} {below : List Frame} {me : Method} {cd : Code} {s₁ : State} {ls : List Loc} (X0 : Stand pg la ev room_1 sb mi aa below me cd s₁ ls 70 10000) (hx : pg.tables.exec = Jvm.exec) (hby : cd.code = code) (hml : cd.maxLocals = 25) (hZ : Z.Warmed39 sb.vm) (hown : sb.vm.findClass c3_ = some mi.cls) (eE : s₁.heap = hE) (N0 : Fr n0 ls) (O : Old Z n0 hE) (P0_ : LStr Z hE xs ts ll) (D0_ : Sta Z Z.heap c1_ c5_ "Z" (.int zc)) (D1_ : Sta Z Z.heap c10_ c21_ c12_ fm) (en : nn = Int32.ofNat k) (g0 : ¬ (ff = (0 : Int32)) → (k < ll.length ∧ ll.getD k 0 = (33 : Int32)) ∧ (k + 1 < ll.length ∧ ll.getD (k + 1) 0 = cc)) (g1 : ¬ (ff = (0 : Int32)) → ¬ (ff < (2 : Int32)) → k + 2 < ll.length ∧ ll.getD (k + 2) 0 = dd) (hzc : ¬ (zc = (0 : Int32))) (hfm : fm.isRef = true) :
    ∃ (T' : State) (h' : Heap) (L' : List Loc), Stand pg la ev room_1 sb mi aa below me cd T' L' (70) (10000) ∧ T'.heap = h' ∧ Fr n0 L' ∧ Keep hE h' [] ∧ ∀ tt, SP pg ev below (T'.setTop (mkF mi 498 #[s0, s1, s2, s3, s4, s5, s6, s7, s8, s9, .val (.int cc), .val (.int dd), .val (.int ff), s13, s14, s15, s16, s17, .val (.ref xs), s19, s20, s21, .val (.int 1), s23, .val (.int nn)] [])) tt → SP pg ev below (s₁.setTop (mkF mi 435 #[s0, s1, s2, s3, s4, s5, s6, s7, s8, s9, .val (.int cc), .val (.int dd), .val (.int ff), s13, s14, s15, s16, s17, .val (.ref xs), s19, s20, s21, .val (.int 1), s23, .val (.int nn)] [])) tt := by
  have pre0 : ∀ tt, SP pg ev below (s₁.setTop (mkF mi 435 #[s0, s1, s2, s3, s4, s5, s6, s7, s8, s9, .val (.int cc), .val (.int dd), .val (.int ff), s13, s14, s15, s16, s17, .val (.ref xs), s19, s20, s21, .val (.int 1), s23, .val (.int nn)] [])) tt → SP pg ev below (s₁.setTop (mkF mi 435 #[s0, s1, s2, s3, s4, s5, s6, s7, s8, s9, .val (.int cc), .val (.int dd), .val (.int ff), s13, s14, s15, s16, s17, .val (.ref xs), s19, s20, s21, .val (.int 1), s23, .val (.int nn)] [])) tt := fun tt kk => kk
  have pre102 : ∀ tt, SP pg ev below (s₁.setTop (mkF mi 437 #[s0, s1, s2, s3, s4, s5, s6, s7, s8, s9, .val (.int cc), .val (.int dd), .val (.int ff), s13, s14, s15, s16, s17, .val (.ref xs), s19, s20, s21, .val (.int 1), s23, .val (.int nn)] [(.int ff)])) tt → SP pg ev below (s₁.setTop (mkF mi 435 #[s0, s1, s2, s3, s4, s5, s6, s7, s8, s9, .val (.int cc), .val (.int dd), .val (.int ff), s13, s14, s15, s16, s17, .val (.ref xs), s19, s20, s21, .val (.int 1), s23, .val (.int nn)] [])) tt := fun tt kk => pre0 _ (by
    show SP pg ev below (s₁.setTop (mkF mi 435 #[s0, s1, s2, s3, s4, s5, s6, s7, s8, s9, .val (.int cc), .val (.int dd), .val (.int ff), s13, s14, s15, s16, s17, .val (.ref xs), s19, s20, s21, .val (.int 1), s23, .val (.int nn)] [])) _
    refine XS.iload X0.here hx rfl (hb hby at_435) rfl ?_
    exact kk)
  by_cases hc101 : ff = (0 : Int32)
  · have pre103 : ∀ tt, SP pg ev below (s₁.setTop (mkF mi 498 #[s0, s1, s2, s3, s4, s5, s6, s7, s8, s9, .val (.int cc), .val (.int dd), .val (.int ff), s13, s14, s15, s16, s17, .val (.ref xs), s19, s20, s21, .val (.int 1), s23, .val (.int nn)] [])) tt → SP pg ev below (s₁.setTop (mkF mi 435 #[s0, s1, s2, s3, s4, s5, s6, s7, s8, s9, .val (.int cc), .val (.int dd), .val (.int ff), s13, s14, s15, s16, s17, .val (.ref xs), s19, s20, s21, .val (.int 1), s23, .val (.int nn)] [])) tt := fun tt kk => pre102 _ (by
      show SP pg ev below (s₁.setTop (mkF mi 437 #[s0, s1, s2, s3, s4, s5, s6, s7, s8, s9, .val (.int cc), .val (.int dd), .val (.int ff), s13, s14, s15, s16, s17, .val (.ref xs), s19, s20, s21, .val (.int 1), s23, .val (.int nn)] [(.int ff)])) _
      refine XS.ifYes X0.here hx rfl (pc0 := 437) (pc' := 498) rfl (hb hby at_437) rfl ((if0 _ _).trans (teq hc101).1) (by decide) (by decide) ?_
      exact kk)
    exact ⟨_, _, _, X0, eE, N0, (Keep.refl hE []), fun tt kk => pre103 tt kk⟩
  · obtain ⟨cq104, kq104, q104a, q104b, q104c⟩ := isOf hZ eE (P0_).1
    obtain ⟨v104, _, ⟨T104, L104, k104, n104⟩, -, X104, ⟨Lc104, hQ104, l104, y104, z104⟩, st104⟩ := X0.virtualBack hx (y := mn6) (z := mn6) hown (mvT hZ (wd227 hw)) (mvT hZ (wd228 hw)) (notFace_of_selects (args := #[]) (mvT hZ (wd230 hw))) (mvT hZ (wd230 hw)) (mvT hZ (wd229 hw)) (by decide) (backOf (W := 0) (rm_sch la Z a0 hw [] xs nn ts ll k zc fm hE n0 O P0_ D0_ D1_ (en : nn = Int32.ofNat k) ((g0 hc101).1.1 : k < ll.length) (hzc : ¬ (zc = (0 : Int32))) (hfm : fm.isRef = true)) hZ (wd231 hw) (wd6 hw) (by decide) (by decide)) q104a q104c (g := (mkF mi 449 #[s0, s1, s2, s3, s4, s5, s6, s7, s8, s9, .val (.int cc), .val (.int dd), .val (.int ff), s13, s14, s15, s16, s17, .val (.ref xs), s19, s20, s21, .val (.int 1), s23, .val (.int nn)] [(.int nn), (.ref xs)])) rfl (by rw [hml]; rfl) (Steps.refl _) (argsL := [(.int nn)]) (rest := []) (lenOf pd_33 rfl) rfl (Nat.le_of_ble_eq_true rfl) (hb hby at_449) (fun _ _ => ⟨rfl, eE, (by decide : 70 + 0 ≤ _), (by decide : 10000 + 0 ≤ _)⟩)
    dsimp only [Pt.U, Pt.locs, Pt.cells, Pt.slots] at X104 l104 y104 z104 st104 hQ104
    subst l104 y104 z104
    obtain ⟨rfl, Nq104, ek104⟩ := hQ104
    have N104 := Fr.app N0 Nq104
    obtain ⟨cq105, kq105, q105a, q105b, q105c⟩ := isOf hZ ek104 (P0_).1
    obtain ⟨v105, _, ⟨T105, L105, k105, n105⟩, -, X105, ⟨Lc105, hQ105, l105, y105, z105⟩, st105⟩ := X104.virtualBack hx (y := mn6) (z := mn6) hown (mvT hZ (wd227 hw)) (mvT hZ (wd228 hw)) (notFace_of_selects (args := #[]) (mvT hZ (wd230 hw))) (mvT hZ (wd230 hw)) (mvT hZ (wd229 hw)) (by decide) (backOf (W := 0) (rm_sch la Z a0 hw [] xs (nn + (1 : Int32)) ts ll (k + 1) zc fm hE n0 O P0_ D0_ D1_ (own_ix1 en : (nn + (1 : Int32)) = Int32.ofNat (k + 1)) ((g0 hc101).2.1 : (k + 1) < ll.length) (hzc : ¬ (zc = (0 : Int32))) (hfm : fm.isRef = true)) hZ (wd231 hw) (wd6 hw) (by decide) (by decide)) q105a q105c (g := (mkF mi 463 #[s0, s1, s2, s3, s4, s5, s6, s7, s8, s9, .val (.int cc), .val (.int dd), .val (.int ff), s13, s14, s15, s16, s17, .val (.ref xs), s19, s20, s21, .val (.int 1), s23, .val (.int nn)] [(.int (nn + (1 : Int32))), (.ref xs)])) rfl (by rw [hml]; rfl) (Steps.refl _) (argsL := [(.int (nn + (1 : Int32)))]) (rest := []) (lenOf pd_33 rfl) rfl (Nat.le_of_ble_eq_true rfl) (hb hby at_463) (fun _ _ => ⟨rfl, ek104, (by decide : 70 + 0 ≤ _), (by decide : 10000 + 0 ≤ _)⟩)
    dsimp only [Pt.U, Pt.locs, Pt.cells, Pt.slots] at X105 l105 y105 z105 st105 hQ105
    subst l105 y105 z105
    obtain ⟨rfl, Nq105, ek105⟩ := hQ105
    have N105 := Fr.app N104 Nq105
    have pre107 : ∀ tt, SP pg ev below (T105.setTop (mkF mi 474 #[s0, s1, s2, s3, s4, s5, s6, s7, s8, s9, .val (.int cc), .val (.int dd), .val (.int ff), s13, s14, s15, s16, s17, .val (.ref xs), s19, s20, s21, .val (.int 1), s23, .val (.int nn)] [(.int 2), (.int ff)])) tt → SP pg ev below (s₁.setTop (mkF mi 435 #[s0, s1, s2, s3, s4, s5, s6, s7, s8, s9, .val (.int cc), .val (.int dd), .val (.int ff), s13, s14, s15, s16, s17, .val (.ref xs), s19, s20, s21, .val (.int 1), s23, .val (.int nn)] [])) tt := fun tt kk => pre102 _ (by
      show SP pg ev below (s₁.setTop (mkF mi 437 #[s0, s1, s2, s3, s4, s5, s6, s7, s8, s9, .val (.int cc), .val (.int dd), .val (.int ff), s13, s14, s15, s16, s17, .val (.ref xs), s19, s20, s21, .val (.int 1), s23, .val (.int nn)] [(.int ff)])) _
      refine XS.ifNo X0.here hx rfl (hb hby at_437) rfl ((if0 _ _).trans (feq hc101).1) ?_
      refine XS.iload X0.here hx rfl (hb hby at_440) rfl ?_
      refine XS.ifNo X0.here hx rfl (hb hby at_442) rfl ((if0 _ _).trans (feq (by decide : ¬ ((1 : Int32) = (0 : Int32)))).1) ?_
      refine XS.aload X0.here hx rfl (hb hby at_445) rfl rfl ?_
      refine XS.iload X0.here hx rfl (hb hby at_447) rfl ?_
      refine st104.trans ?_
      refine XS.bipush X104.here hx rfl (hb hby at_452) ?_
      refine XS.icmpNo X104.here hx rfl (hb hby at_454) rfl (teq (g0 hc101).1.2).2 ?_
      refine XS.aload X104.here hx rfl (hb hby at_457) rfl rfl ?_
      refine XS.iload X104.here hx rfl (hb hby at_459) rfl ?_
      refine XS.iconst X104.here hx rfl (hb hby at_461) ?_
      refine XS.iadd X104.here hx rfl (hb hby at_462) rfl ?_
      refine st105.trans ?_
      refine XS.iload X105.here hx rfl (hb hby at_466) rfl ?_
      refine XS.icmpNo X105.here hx rfl (hb hby at_468) rfl (teq (g0 hc101).2.2).2 ?_
      refine XS.iload X105.here hx rfl (hb hby at_471) rfl ?_
      refine XS.iconst X105.here hx rfl (hb hby at_473) ?_
      exact kk)
    by_cases hc106 : ff < (2 : Int32)
    · have pre108 : ∀ tt, SP pg ev below (T105.setTop (mkF mi 498 #[s0, s1, s2, s3, s4, s5, s6, s7, s8, s9, .val (.int cc), .val (.int dd), .val (.int ff), s13, s14, s15, s16, s17, .val (.ref xs), s19, s20, s21, .val (.int 1), s23, .val (.int nn)] [])) tt → SP pg ev below (s₁.setTop (mkF mi 435 #[s0, s1, s2, s3, s4, s5, s6, s7, s8, s9, .val (.int cc), .val (.int dd), .val (.int ff), s13, s14, s15, s16, s17, .val (.ref xs), s19, s20, s21, .val (.int 1), s23, .val (.int nn)] [])) tt := fun tt kk => pre107 _ (by
        show SP pg ev below (T105.setTop (mkF mi 474 #[s0, s1, s2, s3, s4, s5, s6, s7, s8, s9, .val (.int cc), .val (.int dd), .val (.int ff), s13, s14, s15, s16, s17, .val (.ref xs), s19, s20, s21, .val (.int 1), s23, .val (.int nn)] [(.int 2), (.int ff)])) _
        refine XS.icmpYes X105.here hx rfl (pc0 := 474) (pc' := 491) rfl (hb hby at_474) rfl (tlt hc106).1 (by decide) (by decide) ?_
        refine XS.iconst X105.here hx rfl (hb hby at_491) ?_
        refine XS.goto X105.here hx rfl (pc0 := 492) (pc' := 496) rfl (hb hby at_492) (by decide) (by decide) ?_
        refine XS.istore X105.here hx rfl (hb hby at_496) rfl (l' := #[s0, s1, s2, s3, s4, s5, s6, s7, s8, s9, .val (.int cc), .val (.int dd), .val (.int ff), s13, s14, s15, s16, s17, .val (.ref xs), s19, s20, s21, .val (.int 1), s23, .val (.int nn)]) rfl ?_
        exact kk)
      exact ⟨_, _, _, X105, ek105, N105, (Keep.refl hE []), fun tt kk => pre108 tt kk⟩
    · obtain ⟨cq109, kq109, q109a, q109b, q109c⟩ := isOf hZ ek105 (P0_).1
      obtain ⟨v109, _, ⟨T109, L109, k109, n109⟩, -, X109, ⟨Lc109, hQ109, l109, y109, z109⟩, st109⟩ := X105.virtualBack hx (y := mn6) (z := mn6) hown (mvT hZ (wd227 hw)) (mvT hZ (wd228 hw)) (notFace_of_selects (args := #[]) (mvT hZ (wd230 hw))) (mvT hZ (wd230 hw)) (mvT hZ (wd229 hw)) (by decide) (backOf (W := 0) (rm_sch la Z a0 hw [] xs (nn + (2 : Int32)) ts ll (k + 2) zc fm hE n0 O P0_ D0_ D1_ (own_ix2 en : (nn + (2 : Int32)) = Int32.ofNat (k + 2)) ((g1 hc101 hc106).1 : (k + 2) < ll.length) (hzc : ¬ (zc = (0 : Int32))) (hfm : fm.isRef = true)) hZ (wd231 hw) (wd6 hw) (by decide) (by decide)) q109a q109c (g := (mkF mi 483 #[s0, s1, s2, s3, s4, s5, s6, s7, s8, s9, .val (.int cc), .val (.int dd), .val (.int ff), s13, s14, s15, s16, s17, .val (.ref xs), s19, s20, s21, .val (.int 1), s23, .val (.int nn)] [(.int (nn + (2 : Int32))), (.ref xs)])) rfl (by rw [hml]; rfl) (Steps.refl _) (argsL := [(.int (nn + (2 : Int32)))]) (rest := []) (lenOf pd_33 rfl) rfl (Nat.le_of_ble_eq_true rfl) (hb hby at_483) (fun _ _ => ⟨rfl, ek105, (by decide : 70 + 0 ≤ _), (by decide : 10000 + 0 ≤ _)⟩)
      dsimp only [Pt.U, Pt.locs, Pt.cells, Pt.slots] at X109 l109 y109 z109 st109 hQ109
      subst l109 y109 z109
      obtain ⟨rfl, Nq109, ek109⟩ := hQ109
      have N109 := Fr.app N105 Nq109
      have pre110 : ∀ tt, SP pg ev below (T109.setTop (mkF mi 498 #[s0, s1, s2, s3, s4, s5, s6, s7, s8, s9, .val (.int cc), .val (.int dd), .val (.int ff), s13, s14, s15, s16, s17, .val (.ref xs), s19, s20, s21, .val (.int 1), s23, .val (.int nn)] [])) tt → SP pg ev below (s₁.setTop (mkF mi 435 #[s0, s1, s2, s3, s4, s5, s6, s7, s8, s9, .val (.int cc), .val (.int dd), .val (.int ff), s13, s14, s15, s16, s17, .val (.ref xs), s19, s20, s21, .val (.int 1), s23, .val (.int nn)] [])) tt := fun tt kk => pre107 _ (by
        show SP pg ev below (T105.setTop (mkF mi 474 #[s0, s1, s2, s3, s4, s5, s6, s7, s8, s9, .val (.int cc), .val (.int dd), .val (.int ff), s13, s14, s15, s16, s17, .val (.ref xs), s19, s20, s21, .val (.int 1), s23, .val (.int nn)] [(.int 2), (.int ff)])) _
        refine XS.icmpNo X105.here hx rfl (hb hby at_474) rfl (flt hc106).1 ?_
        refine XS.aload X105.here hx rfl (hb hby at_477) rfl rfl ?_
        refine XS.iload X105.here hx rfl (hb hby at_479) rfl ?_
        refine XS.iconst X105.here hx rfl (hb hby at_481) ?_
        refine XS.iadd X105.here hx rfl (hb hby at_482) rfl ?_
        refine st109.trans ?_
        refine XS.iload X109.here hx rfl (hb hby at_486) rfl ?_
        refine XS.icmpNo X109.here hx rfl (hb hby at_488) rfl (teq (g1 hc101 hc106).2).2 ?_
        refine XS.iconst X109.here hx rfl (hb hby at_491) ?_
        refine XS.goto X109.here hx rfl (pc0 := 492) (pc' := 496) rfl (hb hby at_492) (by decide) (by decide) ?_
        refine XS.istore X109.here hx rfl (hb hby at_496) rfl (l' := #[s0, s1, s2, s3, s4, s5, s6, s7, s8, s9, .val (.int cc), .val (.int dd), .val (.int ff), s13, s14, s15, s16, s17, .val (.ref xs), s19, s20, s21, .val (.int 1), s23, .val (.int nn)]) rfl ?_
        exact kk)
      exact ⟨_, _, _, X109, ek109, N109, (Keep.refl hE []), fun tt kk => pre110 tt kk⟩
section OwnLaw
variable {f6 c4 c5 f9 c7 c8 f12 c10 c11 : Int32} {cm cb cv rr : List Int32} {vw : Value}
theorem own_f2 (h12 : f12 = 0 ∨ f12 = 1 ∨ f12 = 2) (h0 : ¬ f12 = 0) (h1 : ¬ f12 = 1) : f12 = 2 := by rcases h12 with h | h | h; exact absurd h h0; exact absurd h h1; exact h
theorem own_len {n19 n20 n21 : Int32} (hm : MM f6 c4 c5 cm) (hb : MM f9 c7 c8 cb) (hv : VV f12 c10 c11 vw cv) (h12 : f12 = 0 ∨ f12 = 1 ∨ f12 = 2) (e19 : n19 = (if f6 = (0 : Int32) then (1 : Int32) else (2 : Int32))) (e20 : n20 = (if f9 = (0 : Int32) then (1 : Int32) else (2 : Int32))) (e21 : n21 = (if f12 = (0 : Int32) then (0 : Int32) else ((1 : Int32) + f12))) (hr : rr = (((cm ++ [(47 : Int32)]) ++ cb) ++ svF vw cv)) :
    Int32.ofNat (JAl ++ rr).length = (((((9 : Int32) + n19) + (1 : Int32)) + n20) + n21) := by
  subst e19 e20 e21 hr
  rcases hm with ⟨q1, rfl⟩ | ⟨q1, rfl⟩ <;> rcases hb with ⟨q2, rfl⟩ | ⟨q2, rfl⟩ <;> rcases hv with ⟨q3, rfl⟩ | ⟨q3, a, rfl, ⟨q4, rfl⟩ | ⟨q4, rfl⟩⟩ <;> simp only [q1, q2, q3, if_true, if_false]
  all_goals first | rfl | (rw [q4]; rfl) | (rw [own_f2 h12 q3 q4]; rfl)
theorem own_n23 {n19 : Int32} (hm : MM f6 c4 c5 cm) (e19 : n19 = (if f6 = (0 : Int32) then (1 : Int32) else (2 : Int32))) : (9 : Int32) + n19 = Int32.ofNat (9 + cm.length) := by
  subst e19; rcases hm with ⟨q1, rfl⟩ | ⟨q1, rfl⟩ <;> simp only [q1, if_true, if_false] <;> rfl
theorem own_n24 {n20 n23 : Int32} {k : Nat} (hb : MM f9 c7 c8 cb) (e20 : n20 = (if f9 = (0 : Int32) then (1 : Int32) else (2 : Int32))) (e23 : n23 = Int32.ofNat k) : (n23 + (1 : Int32)) + n20 = Int32.ofNat (k + 1 + cb.length) := by
  subst e20 e23
  rcases hb with ⟨q1, rfl⟩ | ⟨q1, rfl⟩ <;> simp only [q1, if_true, if_false]
  · exact (congrArg (· + (1 : Int32)) (own_add32 k 1)).trans (own_add32 (k + 1) 1)
  · exact (congrArg (· + (2 : Int32)) (own_add32 k 1)).trans (own_add32 (k + 1) 2)
theorem own_E (hm : MM f6 c4 c5 cm) (hr : rr = (((cm ++ [(47 : Int32)]) ++ cb) ++ svF vw cv)) : (9 < (JAl ++ rr).length ∧ (JAl ++ rr).getD 9 0 = c4) ∧ (¬ (f6 = (0 : Int32)) → 10 < (JAl ++ rr).length ∧ (JAl ++ rr).getD 10 0 = c5) := by
  subst hr
  rcases hm with ⟨q1, rfl⟩ | ⟨q1, rfl⟩
  · exact ⟨⟨by simp [JAl], rfl⟩, fun h => absurd q1 h⟩
  · exact ⟨⟨by simp [JAl], rfl⟩, fun _ => ⟨by simp [JAl], rfl⟩⟩
theorem own_F (hm : MM f6 c4 c5 cm) (hb : MM f9 c7 c8 cb) (hr : rr = (((cm ++ [(47 : Int32)]) ++ cb) ++ svF vw cv)) : ((9 + cm.length < (JAl ++ rr).length ∧ (JAl ++ rr).getD (9 + cm.length) 0 = (47 : Int32)) ∧ (9 + cm.length + 1 < (JAl ++ rr).length ∧ (JAl ++ rr).getD (9 + cm.length + 1) 0 = c7)) ∧ (¬ (f9 = (0 : Int32)) → 9 + cm.length + 2 < (JAl ++ rr).length ∧ (JAl ++ rr).getD (9 + cm.length + 2) 0 = c8) := by
  subst hr
  rcases hm with ⟨q1, rfl⟩ | ⟨q1, rfl⟩ <;> rcases hb with ⟨q2, rfl⟩ | ⟨q2, rfl⟩
  all_goals first
    | exact ⟨⟨⟨by simp [JAl], rfl⟩, ⟨by simp [JAl], rfl⟩⟩, fun h => absurd q2 h⟩
    | exact ⟨⟨⟨by simp [JAl], rfl⟩, ⟨by simp [JAl], rfl⟩⟩, fun _ => ⟨by simp [JAl], rfl⟩⟩
theorem own_G (hm : MM f6 c4 c5 cm) (hb : MM f9 c7 c8 cb) (hv : VV f12 c10 c11 vw cv) (h12 : f12 = 0 ∨ f12 = 1 ∨ f12 = 2) (hr : rr = (((cm ++ [(47 : Int32)]) ++ cb) ++ svF vw cv)) :
    (¬ (f12 = (0 : Int32)) → ((9 + cm.length + 1 + cb.length < (JAl ++ rr).length ∧ (JAl ++ rr).getD (9 + cm.length + 1 + cb.length) 0 = (33 : Int32)) ∧ (9 + cm.length + 1 + cb.length + 1 < (JAl ++ rr).length ∧ (JAl ++ rr).getD (9 + cm.length + 1 + cb.length + 1) 0 = c10))) ∧ (¬ (f12 = (0 : Int32)) → ¬ (f12 < (2 : Int32)) → 9 + cm.length + 1 + cb.length + 2 < (JAl ++ rr).length ∧ (JAl ++ rr).getD (9 + cm.length + 1 + cb.length + 2) 0 = c11) := by
  subst hr
  rcases hv with ⟨q3, rfl⟩ | ⟨q3, a, rfl, ⟨q4, rfl⟩ | ⟨q4, rfl⟩⟩
  · exact ⟨fun h => absurd q3 h, fun h => absurd q3 h⟩
  · rcases hm with ⟨q1, rfl⟩ | ⟨q1, rfl⟩ <;> rcases hb with ⟨q2, rfl⟩ | ⟨q2, rfl⟩ <;> exact ⟨fun _ => ⟨⟨by simp [JAl, svF], rfl⟩, ⟨by simp [JAl, svF], rfl⟩⟩, fun _ h => absurd (by rw [q4]; decide) h⟩
  · rcases hm with ⟨q1, rfl⟩ | ⟨q1, rfl⟩ <;> rcases hb with ⟨q2, rfl⟩ | ⟨q2, rfl⟩ <;> exact ⟨fun _ => ⟨⟨by simp [JAl, svF], rfl⟩, ⟨by simp [JAl, svF], rfl⟩⟩, fun _ _ => ⟨by simp [JAl, svF], rfl⟩⟩
end OwnLaw
theorem pd_34 : parseMethodDescriptor "(Ljava/lang/String;)Z" = some ⟨[(.object "java/lang/String")], some .boolean⟩ := by decide +kernel
theorem ef_law (mi : MethodId) (x0 : Int32) (x1 : Int32) (x2 : Int32) (x3 : Int32) : entryFrame mi #[(.int x0), (.int x1), (.int x2), (.int x3)] maxLocals = mkF mi 0 #[.val (.int x0), .val (.int x1), .val (.int x2), .val (.int x3), .unset, .unset, .unset, .unset, .unset, .unset, .unset, .unset, .unset, .unset, .unset, .unset, .unset, .unset, .unset, .unset, .unset, .unset, .unset, .unset, .unset] [] := by first | (simp [entryFrame, mkF, argsToLocals, Value.category, maxLocals]; done) | rfl
def Q_law (Z : State) (x0 x1 x2 x3 zc : Int32) (fm : Value) (hE : Heap) (n0 : Nat) (vv : Option Value) (hh : Heap) (LL : List Loc) : Prop := (vv = some (.int 1)) ∧ (Fr n0 LL)
theorem rm_law (hw : HW a0 Z) (ws : List Cond) (x0 x1 x2 x3 zc : Int32) (fm : Value) (hE : Heap) (n0 : Nat) (O : Old Z n0 hE) (D0_ : Sta Z Z.heap c1_ c5_ "Z" (.int zc)) (D1_ : Sta Z Z.heap c10_ c21_ c12_ fm) (hzc : ¬ (zc = (0 : Int32))) (hfm : fm.isRef = true) :
    MetFree la x (head1 (Cond.code x code maxLocals ret :: ws) room_1) (fun aa UU => aa = #[(.int x0), (.int x1), (.int x2), (.int x3)] ∧ Z.Warmed39 UU.vm ∧ UU.heap = hE ∧ CHv Z ELs UU.vm hE) (fun _ _ _ _ _ => True) (fun _ UU oo UV => ∃ vv LL, oo = .returned vv ∧ Q_law Z x0 x1 x2 x3 zc fm hE n0 vv UV.heap LL ∧ CHr Z ELs UU.vm UU.heap UV.vm UV.heap ∧ ReturnedEndW UU oo UV LL room_1.cells room_1.slots) := by
  refine MetFree.of_bodySF (plainFor_of_name pn_com_example_beanloft_beanloft_naming_GlobalNameInApplicationPinLaw) hisR ?_
  intro pg ev sb mi gs below me cd s₁ Bd hml0 hPt hKt
  obtain ⟨rfl, hZ, hh, hH⟩ := hPt
  have hx := Bd.exec
  have hby := Bd.bytes
  have hml : cd.maxLocals = 25 := hml0
  have hown : sb.vm.findClass c3_ = some mi.cls := findClass_of_methodNamed Bd.named
  have X0 : Stand pg la ev room_1 (sb.setVm sb.vm) mi #[(.int x0), (.int x1), (.int x2), (.int x3)] below me cd s₁ [] 0 0 := Stand.of_body Bd
  have eE : s₁.heap = hE := by rw [← hh, Bd.state]; rfl
  have N0 := Fr.nil n0
  have pre0 : ∀ tt, SP pg ev below (s₁.setTop (mkF mi 0 #[.val (.int x0), .val (.int x1), .val (.int x2), .val (.int x3), .unset, .unset, .unset, .unset, .unset, .unset, .unset, .unset, .unset, .unset, .unset, .unset, .unset, .unset, .unset, .unset, .unset, .unset, .unset, .unset, .unset] [])) tt → SP pg ev below (s₁.setTop (entryFrame mi #[(.int x0), (.int x1), (.int x2), (.int x3)] maxLocals)) tt := fun tt kk => castTop (ef_law mi x0 x1 x2 x3) kk
  have hS : sb.Since sb.vm 0 := (State.WarmedH.refl sb).since 0
  have hk : 0 ≤ hE.size := Nat.zero_le _
  have hEL := own_EW hw
  have C0 := CHr.refl hH
  obtain ⟨v101, _, ⟨T101, L101, k101, n101⟩, -, X101, ⟨Lc101, hQ101, l101, y101, z101⟩, st101⟩ := Jvm.LawKit.callS X0 hx (y := mn30) hown (mvT hZ (wd0 hw)) (mvT hZ (wd1 hw)) (mvT hZ (wd2 hw)) (mvT hZ (wd3 hw)) (by decide) (backOf (W := 0) (rm_chc la Z a0 hw [] x1 hE n0 O) hZ (wd3 hw) (wd2 hw) (by decide) (by decide)) (g := (mkF mi 1 #[.val (.int x0), .val (.int x1), .val (.int x2), .val (.int x3), .unset, .unset, .unset, .unset, .unset, .unset, .unset, .unset, .unset, .unset, .unset, .unset, .unset, .unset, .unset, .unset, .unset, .unset, .unset, .unset, .unset] [(.int x1)])) rfl (by rw [hml]; rfl) (argsL := [(.int x1)]) (rest := []) (lenOf pd_33 rfl) rfl (Nat.le_of_ble_eq_true rfl) (hb hby at_1) (fun _ _ => ⟨rfl, eE, (by decide : 0 + 0 ≤ _), (by decide : 0 + 0 ≤ _)⟩)
  dsimp only [Pt.U, Pt.locs, Pt.cells, Pt.slots] at X101 l101 y101 z101 st101 hQ101
  subst l101 y101 z101
  obtain ⟨rfl, Nq101, ek101⟩ := hQ101
  have N101 := Fr.app N0 Nq101
  obtain ⟨d4, he_d4⟩ : ∃ z, z = (chF x1) := ⟨_, rfl⟩
  have pre102 : ∀ tt, SP pg ev below (T101.setTop (mkF mi 4 #[.val (.int x0), .val (.int x1), .val (.int x2), .val (.int x3), .unset, .unset, .unset, .unset, .unset, .unset, .unset, .unset, .unset, .unset, .unset, .unset, .unset, .unset, .unset, .unset, .unset, .unset, .unset, .unset, .unset] [(.int (chF x1))])) tt → SP pg ev below (s₁.setTop (entryFrame mi #[(.int x0), (.int x1), (.int x2), (.int x3)] maxLocals)) tt := fun tt kk => pre0 _ (by
    show SP pg ev below (s₁.setTop (mkF mi 0 #[.val (.int x0), .val (.int x1), .val (.int x2), .val (.int x3), .unset, .unset, .unset, .unset, .unset, .unset, .unset, .unset, .unset, .unset, .unset, .unset, .unset, .unset, .unset, .unset, .unset, .unset, .unset, .unset, .unset] [])) _
    refine XS.iloadN X0.here hx rfl (hb hby at_0) rfl ?_
    refine st101 _ ?_
    exact kk)
  have pre103 : ∀ tt, SP pg ev below (T101.setTop (mkF mi 4 #[.val (.int x0), .val (.int x1), .val (.int x2), .val (.int x3), .unset, .unset, .unset, .unset, .unset, .unset, .unset, .unset, .unset, .unset, .unset, .unset, .unset, .unset, .unset, .unset, .unset, .unset, .unset, .unset, .unset] [(.int d4)])) tt → SP pg ev below (s₁.setTop (entryFrame mi #[(.int x0), (.int x1), (.int x2), (.int x3)] maxLocals)) tt := fun tt kk => pre102 tt (by rw [← he_d4]; exact kk)
  have o_d4 : COk d4 := he_d4 ▸ own_cok _
  obtain ⟨v104, _, ⟨T104, L104, k104, n104⟩, -, X104, ⟨Lc104, hQ104, l104, y104, z104⟩, st104⟩ := Jvm.LawKit.callS X101 hx (y := mn30) hown (mvT hZ (wd0 hw)) (mvT hZ (wd1 hw)) (mvT hZ (wd2 hw)) (mvT hZ (wd3 hw)) (by decide) (backOf (W := 0) (rm_chc la Z a0 hw [] ((x1.toUInt32 >>> ((8 : Int32) &&& 31).toUInt32).toInt32) hE n0 O) hZ (wd3 hw) (wd2 hw) (by decide) (by decide)) (g := (mkF mi 10 #[.val (.int x0), .val (.int x1), .val (.int x2), .val (.int x3), .val (.int d4), .unset, .unset, .unset, .unset, .unset, .unset, .unset, .unset, .unset, .unset, .unset, .unset, .unset, .unset, .unset, .unset, .unset, .unset, .unset, .unset] [(.int ((x1.toUInt32 >>> ((8 : Int32) &&& 31).toUInt32).toInt32))])) rfl (by rw [hml]; rfl) (argsL := [(.int ((x1.toUInt32 >>> ((8 : Int32) &&& 31).toUInt32).toInt32))]) (rest := []) (lenOf pd_33 rfl) rfl (Nat.le_of_ble_eq_true rfl) (hb hby at_10) (fun _ _ => ⟨rfl, ek101, (by decide : 0 + 0 ≤ _), (by decide : 0 + 0 ≤ _)⟩)
  dsimp only [Pt.U, Pt.locs, Pt.cells, Pt.slots] at X104 l104 y104 z104 st104 hQ104
  subst l104 y104 z104
  obtain ⟨rfl, Nq104, ek104⟩ := hQ104
  have N104 := Fr.app N101 Nq104
  obtain ⟨d5, he_d5⟩ : ∃ z, z = (chF ((x1.toUInt32 >>> ((8 : Int32) &&& 31).toUInt32).toInt32)) := ⟨_, rfl⟩
  have pre105 : ∀ tt, SP pg ev below (T104.setTop (mkF mi 13 #[.val (.int x0), .val (.int x1), .val (.int x2), .val (.int x3), .val (.int d4), .unset, .unset, .unset, .unset, .unset, .unset, .unset, .unset, .unset, .unset, .unset, .unset, .unset, .unset, .unset, .unset, .unset, .unset, .unset, .unset] [(.int (chF ((x1.toUInt32 >>> ((8 : Int32) &&& 31).toUInt32).toInt32)))])) tt → SP pg ev below (s₁.setTop (entryFrame mi #[(.int x0), (.int x1), (.int x2), (.int x3)] maxLocals)) tt := fun tt kk => pre103 _ (by
    show SP pg ev below (T101.setTop (mkF mi 4 #[.val (.int x0), .val (.int x1), .val (.int x2), .val (.int x3), .unset, .unset, .unset, .unset, .unset, .unset, .unset, .unset, .unset, .unset, .unset, .unset, .unset, .unset, .unset, .unset, .unset, .unset, .unset, .unset, .unset] [(.int d4)])) _
    refine XS.istore X101.here hx rfl (hb hby at_4) rfl (l' := #[.val (.int x0), .val (.int x1), .val (.int x2), .val (.int x3), .val (.int d4), .unset, .unset, .unset, .unset, .unset, .unset, .unset, .unset, .unset, .unset, .unset, .unset, .unset, .unset, .unset, .unset, .unset, .unset, .unset, .unset]) rfl ?_
    refine XS.iloadN X101.here hx rfl (hb hby at_6) rfl ?_
    refine XS.bipush X101.here hx rfl (hb hby at_7) ?_
    refine XS.iushr X101.here hx rfl (hb hby at_9) rfl ?_
    refine st104 _ ?_
    exact kk)
  have pre106 : ∀ tt, SP pg ev below (T104.setTop (mkF mi 13 #[.val (.int x0), .val (.int x1), .val (.int x2), .val (.int x3), .val (.int d4), .unset, .unset, .unset, .unset, .unset, .unset, .unset, .unset, .unset, .unset, .unset, .unset, .unset, .unset, .unset, .unset, .unset, .unset, .unset, .unset] [(.int d5)])) tt → SP pg ev below (s₁.setTop (entryFrame mi #[(.int x0), (.int x1), (.int x2), (.int x3)] maxLocals)) tt := fun tt kk => pre105 tt (by rw [← he_d5]; exact kk)
  have o_d5 : COk d5 := he_d5 ▸ own_cok _
  have pre107 : ∀ tt, SP pg ev below (T104.setTop (mkF mi 15 #[.val (.int x0), .val (.int x1), .val (.int x2), .val (.int x3), .val (.int d4), .val (.int d5), .unset, .unset, .unset, .unset, .unset, .unset, .unset, .unset, .unset, .unset, .unset, .unset, .unset, .unset, .unset, .unset, .unset, .unset, .unset] [])) tt → SP pg ev below (s₁.setTop (entryFrame mi #[(.int x0), (.int x1), (.int x2), (.int x3)] maxLocals)) tt := fun tt kk => pre106 _ (by
    show SP pg ev below (T104.setTop (mkF mi 13 #[.val (.int x0), .val (.int x1), .val (.int x2), .val (.int x3), .val (.int d4), .unset, .unset, .unset, .unset, .unset, .unset, .unset, .unset, .unset, .unset, .unset, .unset, .unset, .unset, .unset, .unset, .unset, .unset, .unset, .unset] [(.int d5)])) _
    refine XS.istore X104.here hx rfl (hb hby at_13) rfl (l' := #[.val (.int x0), .val (.int x1), .val (.int x2), .val (.int x3), .val (.int d4), .val (.int d5), .unset, .unset, .unset, .unset, .unset, .unset, .unset, .unset, .unset, .unset, .unset, .unset, .unset, .unset, .unset, .unset, .unset, .unset, .unset]) rfl ?_
    exact kk)
  have pre109 : ∀ tt, SP pg ev below (T104.setTop (mkF mi 29 #[.val (.int x0), .val (.int x1), .val (.int x2), .val (.int x3), .val (.int d4), .val (.int d5), .unset, .unset, .unset, .unset, .unset, .unset, .unset, .unset, .unset, .unset, .unset, .unset, .unset, .unset, .unset, .unset, .unset, .unset, .unset] [(.int (if (((x1.toUInt32 >>> ((16 : Int32) &&& 31).toUInt32).toInt32) &&& (1 : Int32)) = (0 : Int32) then (0 : Int32) else (1 : Int32)))])) tt → SP pg ev below (s₁.setTop (entryFrame mi #[(.int x0), (.int x1), (.int x2), (.int x3)] maxLocals)) tt := fun tt kk => pre107 _ (by
    show SP pg ev below (T104.setTop (mkF mi 15 #[.val (.int x0), .val (.int x1), .val (.int x2), .val (.int x3), .val (.int d4), .val (.int d5), .unset, .unset, .unset, .unset, .unset, .unset, .unset, .unset, .unset, .unset, .unset, .unset, .unset, .unset, .unset, .unset, .unset, .unset, .unset] [])) _
    refine XS.iloadN X104.here hx rfl (hb hby at_15) rfl ?_
    refine XS.bipush X104.here hx rfl (hb hby at_16) ?_
    refine XS.iushr X104.here hx rfl (hb hby at_18) rfl ?_
    refine XS.iconst X104.here hx rfl (hb hby at_19) ?_
    refine XS.iand X104.here hx rfl (hb hby at_20) rfl ?_
    by_cases hm108 : (((x1.toUInt32 >>> ((16 : Int32) &&& 31).toUInt32).toInt32) &&& (1 : Int32)) = (0 : Int32)
    · try simp only [if_pos hm108] at kk
      show SP pg ev below (T104.setTop (mkF mi 21 #[.val (.int x0), .val (.int x1), .val (.int x2), .val (.int x3), .val (.int d4), .val (.int d5), .unset, .unset, .unset, .unset, .unset, .unset, .unset, .unset, .unset, .unset, .unset, .unset, .unset, .unset, .unset, .unset, .unset, .unset, .unset] [(.int (((x1.toUInt32 >>> ((16 : Int32) &&& 31).toUInt32).toInt32) &&& (1 : Int32)))])) _
      refine XS.ifYes X104.here hx rfl (pc0 := 21) (pc' := 28) rfl (hb hby at_21) rfl ((if0 _ _).trans (teq hm108).1) (by decide) (by decide) ?_
      refine XS.iconst X104.here hx rfl (hb hby at_28) ?_
      exact kk
    · try simp only [if_neg hm108] at kk
      show SP pg ev below (T104.setTop (mkF mi 21 #[.val (.int x0), .val (.int x1), .val (.int x2), .val (.int x3), .val (.int d4), .val (.int d5), .unset, .unset, .unset, .unset, .unset, .unset, .unset, .unset, .unset, .unset, .unset, .unset, .unset, .unset, .unset, .unset, .unset, .unset, .unset] [(.int (((x1.toUInt32 >>> ((16 : Int32) &&& 31).toUInt32).toInt32) &&& (1 : Int32)))])) _
      refine XS.ifNo X104.here hx rfl (hb hby at_21) rfl ((if0 _ _).trans (feq hm108).1) ?_
      refine XS.iconst X104.here hx rfl (hb hby at_24) ?_
      refine XS.goto X104.here hx rfl (pc0 := 25) (pc' := 29) rfl (hb hby at_25) (by decide) (by decide) ?_
      exact kk)
  obtain ⟨f6, he_f6⟩ : ∃ z, z = (if (((x1.toUInt32 >>> ((16 : Int32) &&& 31).toUInt32).toInt32) &&& (1 : Int32)) = (0 : Int32) then (0 : Int32) else (1 : Int32)) := ⟨_, rfl⟩
  have pre110 : ∀ tt, SP pg ev below (T104.setTop (mkF mi 29 #[.val (.int x0), .val (.int x1), .val (.int x2), .val (.int x3), .val (.int d4), .val (.int d5), .unset, .unset, .unset, .unset, .unset, .unset, .unset, .unset, .unset, .unset, .unset, .unset, .unset, .unset, .unset, .unset, .unset, .unset, .unset] [(.int f6)])) tt → SP pg ev below (s₁.setTop (entryFrame mi #[(.int x0), (.int x1), (.int x2), (.int x3)] maxLocals)) tt := fun tt kk => pre109 tt (by rw [← he_f6]; exact kk)
  obtain ⟨v111, _, ⟨T111, L111, k111, n111⟩, -, X111, ⟨Lc111, hQ111, l111, y111, z111⟩, st111⟩ := Jvm.LawKit.callS X104 hx (y := mn30) hown (mvT hZ (wd0 hw)) (mvT hZ (wd1 hw)) (mvT hZ (wd2 hw)) (mvT hZ (wd3 hw)) (by decide) (backOf (W := 0) (rm_chc la Z a0 hw [] x2 hE n0 O) hZ (wd3 hw) (wd2 hw) (by decide) (by decide)) (g := (mkF mi 32 #[.val (.int x0), .val (.int x1), .val (.int x2), .val (.int x3), .val (.int d4), .val (.int d5), .val (.int f6), .unset, .unset, .unset, .unset, .unset, .unset, .unset, .unset, .unset, .unset, .unset, .unset, .unset, .unset, .unset, .unset, .unset, .unset] [(.int x2)])) rfl (by rw [hml]; rfl) (argsL := [(.int x2)]) (rest := []) (lenOf pd_33 rfl) rfl (Nat.le_of_ble_eq_true rfl) (hb hby at_32) (fun _ _ => ⟨rfl, ek104, (by decide : 0 + 0 ≤ _), (by decide : 0 + 0 ≤ _)⟩)
  dsimp only [Pt.U, Pt.locs, Pt.cells, Pt.slots] at X111 l111 y111 z111 st111 hQ111
  subst l111 y111 z111
  obtain ⟨rfl, Nq111, ek111⟩ := hQ111
  have N111 := Fr.app N104 Nq111
  obtain ⟨d7, he_d7⟩ : ∃ z, z = (chF x2) := ⟨_, rfl⟩
  have pre112 : ∀ tt, SP pg ev below (T111.setTop (mkF mi 35 #[.val (.int x0), .val (.int x1), .val (.int x2), .val (.int x3), .val (.int d4), .val (.int d5), .val (.int f6), .unset, .unset, .unset, .unset, .unset, .unset, .unset, .unset, .unset, .unset, .unset, .unset, .unset, .unset, .unset, .unset, .unset, .unset] [(.int (chF x2))])) tt → SP pg ev below (s₁.setTop (entryFrame mi #[(.int x0), (.int x1), (.int x2), (.int x3)] maxLocals)) tt := fun tt kk => pre110 _ (by
    show SP pg ev below (T104.setTop (mkF mi 29 #[.val (.int x0), .val (.int x1), .val (.int x2), .val (.int x3), .val (.int d4), .val (.int d5), .unset, .unset, .unset, .unset, .unset, .unset, .unset, .unset, .unset, .unset, .unset, .unset, .unset, .unset, .unset, .unset, .unset, .unset, .unset] [(.int f6)])) _
    refine XS.istore X104.here hx rfl (hb hby at_29) rfl (l' := #[.val (.int x0), .val (.int x1), .val (.int x2), .val (.int x3), .val (.int d4), .val (.int d5), .val (.int f6), .unset, .unset, .unset, .unset, .unset, .unset, .unset, .unset, .unset, .unset, .unset, .unset, .unset, .unset, .unset, .unset, .unset, .unset]) rfl ?_
    refine XS.iloadN X104.here hx rfl (hb hby at_31) rfl ?_
    refine st111 _ ?_
    exact kk)
  have pre113 : ∀ tt, SP pg ev below (T111.setTop (mkF mi 35 #[.val (.int x0), .val (.int x1), .val (.int x2), .val (.int x3), .val (.int d4), .val (.int d5), .val (.int f6), .unset, .unset, .unset, .unset, .unset, .unset, .unset, .unset, .unset, .unset, .unset, .unset, .unset, .unset, .unset, .unset, .unset, .unset] [(.int d7)])) tt → SP pg ev below (s₁.setTop (entryFrame mi #[(.int x0), (.int x1), (.int x2), (.int x3)] maxLocals)) tt := fun tt kk => pre112 tt (by rw [← he_d7]; exact kk)
  have o_d7 : COk d7 := he_d7 ▸ own_cok _
  obtain ⟨v114, _, ⟨T114, L114, k114, n114⟩, -, X114, ⟨Lc114, hQ114, l114, y114, z114⟩, st114⟩ := Jvm.LawKit.callS X111 hx (y := mn30) hown (mvT hZ (wd0 hw)) (mvT hZ (wd1 hw)) (mvT hZ (wd2 hw)) (mvT hZ (wd3 hw)) (by decide) (backOf (W := 0) (rm_chc la Z a0 hw [] ((x2.toUInt32 >>> ((8 : Int32) &&& 31).toUInt32).toInt32) hE n0 O) hZ (wd3 hw) (wd2 hw) (by decide) (by decide)) (g := (mkF mi 41 #[.val (.int x0), .val (.int x1), .val (.int x2), .val (.int x3), .val (.int d4), .val (.int d5), .val (.int f6), .val (.int d7), .unset, .unset, .unset, .unset, .unset, .unset, .unset, .unset, .unset, .unset, .unset, .unset, .unset, .unset, .unset, .unset, .unset] [(.int ((x2.toUInt32 >>> ((8 : Int32) &&& 31).toUInt32).toInt32))])) rfl (by rw [hml]; rfl) (argsL := [(.int ((x2.toUInt32 >>> ((8 : Int32) &&& 31).toUInt32).toInt32))]) (rest := []) (lenOf pd_33 rfl) rfl (Nat.le_of_ble_eq_true rfl) (hb hby at_41) (fun _ _ => ⟨rfl, ek111, (by decide : 0 + 0 ≤ _), (by decide : 0 + 0 ≤ _)⟩)
  dsimp only [Pt.U, Pt.locs, Pt.cells, Pt.slots] at X114 l114 y114 z114 st114 hQ114
  subst l114 y114 z114
  obtain ⟨rfl, Nq114, ek114⟩ := hQ114
  have N114 := Fr.app N111 Nq114
  obtain ⟨d8, he_d8⟩ : ∃ z, z = (chF ((x2.toUInt32 >>> ((8 : Int32) &&& 31).toUInt32).toInt32)) := ⟨_, rfl⟩
  have pre115 : ∀ tt, SP pg ev below (T114.setTop (mkF mi 44 #[.val (.int x0), .val (.int x1), .val (.int x2), .val (.int x3), .val (.int d4), .val (.int d5), .val (.int f6), .val (.int d7), .unset, .unset, .unset, .unset, .unset, .unset, .unset, .unset, .unset, .unset, .unset, .unset, .unset, .unset, .unset, .unset, .unset] [(.int (chF ((x2.toUInt32 >>> ((8 : Int32) &&& 31).toUInt32).toInt32)))])) tt → SP pg ev below (s₁.setTop (entryFrame mi #[(.int x0), (.int x1), (.int x2), (.int x3)] maxLocals)) tt := fun tt kk => pre113 _ (by
    show SP pg ev below (T111.setTop (mkF mi 35 #[.val (.int x0), .val (.int x1), .val (.int x2), .val (.int x3), .val (.int d4), .val (.int d5), .val (.int f6), .unset, .unset, .unset, .unset, .unset, .unset, .unset, .unset, .unset, .unset, .unset, .unset, .unset, .unset, .unset, .unset, .unset, .unset] [(.int d7)])) _
    refine XS.istore X111.here hx rfl (hb hby at_35) rfl (l' := #[.val (.int x0), .val (.int x1), .val (.int x2), .val (.int x3), .val (.int d4), .val (.int d5), .val (.int f6), .val (.int d7), .unset, .unset, .unset, .unset, .unset, .unset, .unset, .unset, .unset, .unset, .unset, .unset, .unset, .unset, .unset, .unset, .unset]) rfl ?_
    refine XS.iloadN X111.here hx rfl (hb hby at_37) rfl ?_
    refine XS.bipush X111.here hx rfl (hb hby at_38) ?_
    refine XS.iushr X111.here hx rfl (hb hby at_40) rfl ?_
    refine st114 _ ?_
    exact kk)
  have pre116 : ∀ tt, SP pg ev below (T114.setTop (mkF mi 44 #[.val (.int x0), .val (.int x1), .val (.int x2), .val (.int x3), .val (.int d4), .val (.int d5), .val (.int f6), .val (.int d7), .unset, .unset, .unset, .unset, .unset, .unset, .unset, .unset, .unset, .unset, .unset, .unset, .unset, .unset, .unset, .unset, .unset] [(.int d8)])) tt → SP pg ev below (s₁.setTop (entryFrame mi #[(.int x0), (.int x1), (.int x2), (.int x3)] maxLocals)) tt := fun tt kk => pre115 tt (by rw [← he_d8]; exact kk)
  have o_d8 : COk d8 := he_d8 ▸ own_cok _
  have pre117 : ∀ tt, SP pg ev below (T114.setTop (mkF mi 46 #[.val (.int x0), .val (.int x1), .val (.int x2), .val (.int x3), .val (.int d4), .val (.int d5), .val (.int f6), .val (.int d7), .val (.int d8), .unset, .unset, .unset, .unset, .unset, .unset, .unset, .unset, .unset, .unset, .unset, .unset, .unset, .unset, .unset, .unset] [])) tt → SP pg ev below (s₁.setTop (entryFrame mi #[(.int x0), (.int x1), (.int x2), (.int x3)] maxLocals)) tt := fun tt kk => pre116 _ (by
    show SP pg ev below (T114.setTop (mkF mi 44 #[.val (.int x0), .val (.int x1), .val (.int x2), .val (.int x3), .val (.int d4), .val (.int d5), .val (.int f6), .val (.int d7), .unset, .unset, .unset, .unset, .unset, .unset, .unset, .unset, .unset, .unset, .unset, .unset, .unset, .unset, .unset, .unset, .unset] [(.int d8)])) _
    refine XS.istore X114.here hx rfl (hb hby at_44) rfl (l' := #[.val (.int x0), .val (.int x1), .val (.int x2), .val (.int x3), .val (.int d4), .val (.int d5), .val (.int f6), .val (.int d7), .val (.int d8), .unset, .unset, .unset, .unset, .unset, .unset, .unset, .unset, .unset, .unset, .unset, .unset, .unset, .unset, .unset, .unset]) rfl ?_
    exact kk)
  have pre119 : ∀ tt, SP pg ev below (T114.setTop (mkF mi 60 #[.val (.int x0), .val (.int x1), .val (.int x2), .val (.int x3), .val (.int d4), .val (.int d5), .val (.int f6), .val (.int d7), .val (.int d8), .unset, .unset, .unset, .unset, .unset, .unset, .unset, .unset, .unset, .unset, .unset, .unset, .unset, .unset, .unset, .unset] [(.int (if (((x2.toUInt32 >>> ((16 : Int32) &&& 31).toUInt32).toInt32) &&& (1 : Int32)) = (0 : Int32) then (0 : Int32) else (1 : Int32)))])) tt → SP pg ev below (s₁.setTop (entryFrame mi #[(.int x0), (.int x1), (.int x2), (.int x3)] maxLocals)) tt := fun tt kk => pre117 _ (by
    show SP pg ev below (T114.setTop (mkF mi 46 #[.val (.int x0), .val (.int x1), .val (.int x2), .val (.int x3), .val (.int d4), .val (.int d5), .val (.int f6), .val (.int d7), .val (.int d8), .unset, .unset, .unset, .unset, .unset, .unset, .unset, .unset, .unset, .unset, .unset, .unset, .unset, .unset, .unset, .unset] [])) _
    refine XS.iloadN X114.here hx rfl (hb hby at_46) rfl ?_
    refine XS.bipush X114.here hx rfl (hb hby at_47) ?_
    refine XS.iushr X114.here hx rfl (hb hby at_49) rfl ?_
    refine XS.iconst X114.here hx rfl (hb hby at_50) ?_
    refine XS.iand X114.here hx rfl (hb hby at_51) rfl ?_
    by_cases hm118 : (((x2.toUInt32 >>> ((16 : Int32) &&& 31).toUInt32).toInt32) &&& (1 : Int32)) = (0 : Int32)
    · try simp only [if_pos hm118] at kk
      show SP pg ev below (T114.setTop (mkF mi 52 #[.val (.int x0), .val (.int x1), .val (.int x2), .val (.int x3), .val (.int d4), .val (.int d5), .val (.int f6), .val (.int d7), .val (.int d8), .unset, .unset, .unset, .unset, .unset, .unset, .unset, .unset, .unset, .unset, .unset, .unset, .unset, .unset, .unset, .unset] [(.int (((x2.toUInt32 >>> ((16 : Int32) &&& 31).toUInt32).toInt32) &&& (1 : Int32)))])) _
      refine XS.ifYes X114.here hx rfl (pc0 := 52) (pc' := 59) rfl (hb hby at_52) rfl ((if0 _ _).trans (teq hm118).1) (by decide) (by decide) ?_
      refine XS.iconst X114.here hx rfl (hb hby at_59) ?_
      exact kk
    · try simp only [if_neg hm118] at kk
      show SP pg ev below (T114.setTop (mkF mi 52 #[.val (.int x0), .val (.int x1), .val (.int x2), .val (.int x3), .val (.int d4), .val (.int d5), .val (.int f6), .val (.int d7), .val (.int d8), .unset, .unset, .unset, .unset, .unset, .unset, .unset, .unset, .unset, .unset, .unset, .unset, .unset, .unset, .unset, .unset] [(.int (((x2.toUInt32 >>> ((16 : Int32) &&& 31).toUInt32).toInt32) &&& (1 : Int32)))])) _
      refine XS.ifNo X114.here hx rfl (hb hby at_52) rfl ((if0 _ _).trans (feq hm118).1) ?_
      refine XS.iconst X114.here hx rfl (hb hby at_55) ?_
      refine XS.goto X114.here hx rfl (pc0 := 56) (pc' := 60) rfl (hb hby at_56) (by decide) (by decide) ?_
      exact kk)
  obtain ⟨f9, he_f9⟩ : ∃ z, z = (if (((x2.toUInt32 >>> ((16 : Int32) &&& 31).toUInt32).toInt32) &&& (1 : Int32)) = (0 : Int32) then (0 : Int32) else (1 : Int32)) := ⟨_, rfl⟩
  have pre120 : ∀ tt, SP pg ev below (T114.setTop (mkF mi 60 #[.val (.int x0), .val (.int x1), .val (.int x2), .val (.int x3), .val (.int d4), .val (.int d5), .val (.int f6), .val (.int d7), .val (.int d8), .unset, .unset, .unset, .unset, .unset, .unset, .unset, .unset, .unset, .unset, .unset, .unset, .unset, .unset, .unset, .unset] [(.int f9)])) tt → SP pg ev below (s₁.setTop (entryFrame mi #[(.int x0), (.int x1), (.int x2), (.int x3)] maxLocals)) tt := fun tt kk => pre119 tt (by rw [← he_f9]; exact kk)
  obtain ⟨v121, _, ⟨T121, L121, k121, n121⟩, -, X121, ⟨Lc121, hQ121, l121, y121, z121⟩, st121⟩ := Jvm.LawKit.callS X114 hx (y := mn30) hown (mvT hZ (wd0 hw)) (mvT hZ (wd1 hw)) (mvT hZ (wd2 hw)) (mvT hZ (wd3 hw)) (by decide) (backOf (W := 0) (rm_chc la Z a0 hw [] x3 hE n0 O) hZ (wd3 hw) (wd2 hw) (by decide) (by decide)) (g := (mkF mi 63 #[.val (.int x0), .val (.int x1), .val (.int x2), .val (.int x3), .val (.int d4), .val (.int d5), .val (.int f6), .val (.int d7), .val (.int d8), .val (.int f9), .unset, .unset, .unset, .unset, .unset, .unset, .unset, .unset, .unset, .unset, .unset, .unset, .unset, .unset, .unset] [(.int x3)])) rfl (by rw [hml]; rfl) (argsL := [(.int x3)]) (rest := []) (lenOf pd_33 rfl) rfl (Nat.le_of_ble_eq_true rfl) (hb hby at_63) (fun _ _ => ⟨rfl, ek114, (by decide : 0 + 0 ≤ _), (by decide : 0 + 0 ≤ _)⟩)
  dsimp only [Pt.U, Pt.locs, Pt.cells, Pt.slots] at X121 l121 y121 z121 st121 hQ121
  subst l121 y121 z121
  obtain ⟨rfl, Nq121, ek121⟩ := hQ121
  have N121 := Fr.app N114 Nq121
  obtain ⟨d10, he_d10⟩ : ∃ z, z = (chF x3) := ⟨_, rfl⟩
  have pre122 : ∀ tt, SP pg ev below (T121.setTop (mkF mi 66 #[.val (.int x0), .val (.int x1), .val (.int x2), .val (.int x3), .val (.int d4), .val (.int d5), .val (.int f6), .val (.int d7), .val (.int d8), .val (.int f9), .unset, .unset, .unset, .unset, .unset, .unset, .unset, .unset, .unset, .unset, .unset, .unset, .unset, .unset, .unset] [(.int (chF x3))])) tt → SP pg ev below (s₁.setTop (entryFrame mi #[(.int x0), (.int x1), (.int x2), (.int x3)] maxLocals)) tt := fun tt kk => pre120 _ (by
    show SP pg ev below (T114.setTop (mkF mi 60 #[.val (.int x0), .val (.int x1), .val (.int x2), .val (.int x3), .val (.int d4), .val (.int d5), .val (.int f6), .val (.int d7), .val (.int d8), .unset, .unset, .unset, .unset, .unset, .unset, .unset, .unset, .unset, .unset, .unset, .unset, .unset, .unset, .unset, .unset] [(.int f9)])) _
    refine XS.istore X114.here hx rfl (hb hby at_60) rfl (l' := #[.val (.int x0), .val (.int x1), .val (.int x2), .val (.int x3), .val (.int d4), .val (.int d5), .val (.int f6), .val (.int d7), .val (.int d8), .val (.int f9), .unset, .unset, .unset, .unset, .unset, .unset, .unset, .unset, .unset, .unset, .unset, .unset, .unset, .unset, .unset]) rfl ?_
    refine XS.iloadN X114.here hx rfl (hb hby at_62) rfl ?_
    refine st121 _ ?_
    exact kk)
  have pre123 : ∀ tt, SP pg ev below (T121.setTop (mkF mi 66 #[.val (.int x0), .val (.int x1), .val (.int x2), .val (.int x3), .val (.int d4), .val (.int d5), .val (.int f6), .val (.int d7), .val (.int d8), .val (.int f9), .unset, .unset, .unset, .unset, .unset, .unset, .unset, .unset, .unset, .unset, .unset, .unset, .unset, .unset, .unset] [(.int d10)])) tt → SP pg ev below (s₁.setTop (entryFrame mi #[(.int x0), (.int x1), (.int x2), (.int x3)] maxLocals)) tt := fun tt kk => pre122 tt (by rw [← he_d10]; exact kk)
  have o_d10 : COk d10 := he_d10 ▸ own_cok _
  obtain ⟨v124, _, ⟨T124, L124, k124, n124⟩, -, X124, ⟨Lc124, hQ124, l124, y124, z124⟩, st124⟩ := Jvm.LawKit.callS X121 hx (y := mn30) hown (mvT hZ (wd0 hw)) (mvT hZ (wd1 hw)) (mvT hZ (wd2 hw)) (mvT hZ (wd3 hw)) (by decide) (backOf (W := 0) (rm_chc la Z a0 hw [] ((x3.toUInt32 >>> ((8 : Int32) &&& 31).toUInt32).toInt32) hE n0 O) hZ (wd3 hw) (wd2 hw) (by decide) (by decide)) (g := (mkF mi 72 #[.val (.int x0), .val (.int x1), .val (.int x2), .val (.int x3), .val (.int d4), .val (.int d5), .val (.int f6), .val (.int d7), .val (.int d8), .val (.int f9), .val (.int d10), .unset, .unset, .unset, .unset, .unset, .unset, .unset, .unset, .unset, .unset, .unset, .unset, .unset, .unset] [(.int ((x3.toUInt32 >>> ((8 : Int32) &&& 31).toUInt32).toInt32))])) rfl (by rw [hml]; rfl) (argsL := [(.int ((x3.toUInt32 >>> ((8 : Int32) &&& 31).toUInt32).toInt32))]) (rest := []) (lenOf pd_33 rfl) rfl (Nat.le_of_ble_eq_true rfl) (hb hby at_72) (fun _ _ => ⟨rfl, ek121, (by decide : 0 + 0 ≤ _), (by decide : 0 + 0 ≤ _)⟩)
  dsimp only [Pt.U, Pt.locs, Pt.cells, Pt.slots] at X124 l124 y124 z124 st124 hQ124
  subst l124 y124 z124
  obtain ⟨rfl, Nq124, ek124⟩ := hQ124
  have N124 := Fr.app N121 Nq124
  obtain ⟨d11, he_d11⟩ : ∃ z, z = (chF ((x3.toUInt32 >>> ((8 : Int32) &&& 31).toUInt32).toInt32)) := ⟨_, rfl⟩
  have pre125 : ∀ tt, SP pg ev below (T124.setTop (mkF mi 75 #[.val (.int x0), .val (.int x1), .val (.int x2), .val (.int x3), .val (.int d4), .val (.int d5), .val (.int f6), .val (.int d7), .val (.int d8), .val (.int f9), .val (.int d10), .unset, .unset, .unset, .unset, .unset, .unset, .unset, .unset, .unset, .unset, .unset, .unset, .unset, .unset] [(.int (chF ((x3.toUInt32 >>> ((8 : Int32) &&& 31).toUInt32).toInt32)))])) tt → SP pg ev below (s₁.setTop (entryFrame mi #[(.int x0), (.int x1), (.int x2), (.int x3)] maxLocals)) tt := fun tt kk => pre123 _ (by
    show SP pg ev below (T121.setTop (mkF mi 66 #[.val (.int x0), .val (.int x1), .val (.int x2), .val (.int x3), .val (.int d4), .val (.int d5), .val (.int f6), .val (.int d7), .val (.int d8), .val (.int f9), .unset, .unset, .unset, .unset, .unset, .unset, .unset, .unset, .unset, .unset, .unset, .unset, .unset, .unset, .unset] [(.int d10)])) _
    refine XS.istore X121.here hx rfl (hb hby at_66) rfl (l' := #[.val (.int x0), .val (.int x1), .val (.int x2), .val (.int x3), .val (.int d4), .val (.int d5), .val (.int f6), .val (.int d7), .val (.int d8), .val (.int f9), .val (.int d10), .unset, .unset, .unset, .unset, .unset, .unset, .unset, .unset, .unset, .unset, .unset, .unset, .unset, .unset]) rfl ?_
    refine XS.iloadN X121.here hx rfl (hb hby at_68) rfl ?_
    refine XS.bipush X121.here hx rfl (hb hby at_69) ?_
    refine XS.iushr X121.here hx rfl (hb hby at_71) rfl ?_
    refine st124 _ ?_
    exact kk)
  have pre126 : ∀ tt, SP pg ev below (T124.setTop (mkF mi 75 #[.val (.int x0), .val (.int x1), .val (.int x2), .val (.int x3), .val (.int d4), .val (.int d5), .val (.int f6), .val (.int d7), .val (.int d8), .val (.int f9), .val (.int d10), .unset, .unset, .unset, .unset, .unset, .unset, .unset, .unset, .unset, .unset, .unset, .unset, .unset, .unset] [(.int d11)])) tt → SP pg ev below (s₁.setTop (entryFrame mi #[(.int x0), (.int x1), (.int x2), (.int x3)] maxLocals)) tt := fun tt kk => pre125 tt (by rw [← he_d11]; exact kk)
  have o_d11 : COk d11 := he_d11 ▸ own_cok _
  obtain ⟨f12, he_f12⟩ : ∃ z, z = ((((x3.toUInt32 >>> ((16 : Int32) &&& 31).toUInt32).toInt32) &&& (3 : Int32)) % (3 : Int32)) := ⟨_, rfl⟩
  have pre127 : ∀ tt, SP pg ev below (T124.setTop (mkF mi 85 #[.val (.int x0), .val (.int x1), .val (.int x2), .val (.int x3), .val (.int d4), .val (.int d5), .val (.int f6), .val (.int d7), .val (.int d8), .val (.int f9), .val (.int d10), .val (.int d11), .unset, .unset, .unset, .unset, .unset, .unset, .unset, .unset, .unset, .unset, .unset, .unset, .unset] [(.int ((((x3.toUInt32 >>> ((16 : Int32) &&& 31).toUInt32).toInt32) &&& (3 : Int32)) % (3 : Int32)))])) tt → SP pg ev below (s₁.setTop (entryFrame mi #[(.int x0), (.int x1), (.int x2), (.int x3)] maxLocals)) tt := fun tt kk => pre126 _ (by
    show SP pg ev below (T124.setTop (mkF mi 75 #[.val (.int x0), .val (.int x1), .val (.int x2), .val (.int x3), .val (.int d4), .val (.int d5), .val (.int f6), .val (.int d7), .val (.int d8), .val (.int f9), .val (.int d10), .unset, .unset, .unset, .unset, .unset, .unset, .unset, .unset, .unset, .unset, .unset, .unset, .unset, .unset] [(.int d11)])) _
    refine XS.istore X124.here hx rfl (hb hby at_75) rfl (l' := #[.val (.int x0), .val (.int x1), .val (.int x2), .val (.int x3), .val (.int d4), .val (.int d5), .val (.int f6), .val (.int d7), .val (.int d8), .val (.int f9), .val (.int d10), .val (.int d11), .unset, .unset, .unset, .unset, .unset, .unset, .unset, .unset, .unset, .unset, .unset, .unset, .unset]) rfl ?_
    refine XS.iloadN X124.here hx rfl (hb hby at_77) rfl ?_
    refine XS.bipush X124.here hx rfl (hb hby at_78) ?_
    refine XS.iushr X124.here hx rfl (hb hby at_80) rfl ?_
    refine XS.iconst X124.here hx rfl (hb hby at_81) ?_
    refine XS.iand X124.here hx rfl (hb hby at_82) rfl ?_
    refine XS.iconst X124.here hx rfl (hb hby at_83) ?_
    refine iremM X124 hx rfl (hb hby at_84) rfl (by decide) ?_
    exact kk)
  have pre128 : ∀ tt, SP pg ev below (T124.setTop (mkF mi 85 #[.val (.int x0), .val (.int x1), .val (.int x2), .val (.int x3), .val (.int d4), .val (.int d5), .val (.int f6), .val (.int d7), .val (.int d8), .val (.int f9), .val (.int d10), .val (.int d11), .unset, .unset, .unset, .unset, .unset, .unset, .unset, .unset, .unset, .unset, .unset, .unset, .unset] [(.int f12)])) tt → SP pg ev below (s₁.setTop (entryFrame mi #[(.int x0), (.int x1), (.int x2), (.int x3)] maxLocals)) tt := fun tt kk => pre127 tt (by rw [← he_f12]; exact kk)
  have h12 : f12 = 0 ∨ f12 = 1 ∨ f12 = 2 := he_f12 ▸ own_rem3 _
  have pre129 : ∀ tt, SP pg ev below (T124.setTop (mkF mi 87 #[.val (.int x0), .val (.int x1), .val (.int x2), .val (.int x3), .val (.int d4), .val (.int d5), .val (.int f6), .val (.int d7), .val (.int d8), .val (.int f9), .val (.int d10), .val (.int d11), .val (.int f12), .unset, .unset, .unset, .unset, .unset, .unset, .unset, .unset, .unset, .unset, .unset, .unset] [])) tt → SP pg ev below (s₁.setTop (entryFrame mi #[(.int x0), (.int x1), (.int x2), (.int x3)] maxLocals)) tt := fun tt kk => pre128 _ (by
    show SP pg ev below (T124.setTop (mkF mi 85 #[.val (.int x0), .val (.int x1), .val (.int x2), .val (.int x3), .val (.int d4), .val (.int d5), .val (.int f6), .val (.int d7), .val (.int d8), .val (.int f9), .val (.int d10), .val (.int d11), .unset, .unset, .unset, .unset, .unset, .unset, .unset, .unset, .unset, .unset, .unset, .unset, .unset] [(.int f12)])) _
    refine XS.istore X124.here hx rfl (hb hby at_85) rfl (l' := #[.val (.int x0), .val (.int x1), .val (.int x2), .val (.int x3), .val (.int d4), .val (.int d5), .val (.int f6), .val (.int d7), .val (.int d8), .val (.int f9), .val (.int d10), .val (.int d11), .val (.int f12), .unset, .unset, .unset, .unset, .unset, .unset, .unset, .unset, .unset, .unset, .unset, .unset]) rfl ?_
    exact kk)
  obtain ⟨T130, h130, L130, x_130, t_130, cl_130, X130, e130, N130, Kq130, fr_x_130, fr_t_130, r130_0, ph130_mmM, ph130_okM, st130⟩ := sw_mod hw d4 d5 f6 zc (.val (.int x0)) (.val (.int x1)) (.val (.int x2)) (.val (.int x3)) (.val (.int d7)) (.val (.int d8)) (.val (.int f9)) (.val (.int d10)) (.val (.int d11)) (.val (.int f12)) (.unset) (.unset) (.unset) (.unset) (.unset) (.unset) (.unset) (.unset) (.unset) (.unset) (.unset) hE n0 (X124.more (by decide) (by decide)) hx hby hml hZ hown ek124 N124 O D0_ (o_d4 : COk d4) (o_d5 : COk d5) (hzc : ¬ (zc = (0 : Int32)))
  have c131 := CHr.keep Kq130 sf0 C0.1
  have C132 := CHr.trans C0 c131
  have pre133 : ∀ tt, SP pg ev below (T130.setTop (mkF mi 122 #[.val (.int x0), .val (.int x1), .val (.int x2), .val (.int x3), .val (.int d4), .val (.int d5), .val (.int f6), .val (.int d7), .val (.int d8), .val (.int f9), .val (.int d10), .val (.int d11), .val (.int f12), .val (.ref x_130), .unset, .unset, .unset, .unset, .unset, .unset, .unset, .unset, .unset, .unset, .unset] [])) tt → SP pg ev below (s₁.setTop (entryFrame mi #[(.int x0), (.int x1), (.int x2), (.int x3)] maxLocals)) tt := fun tt kk => pre129 _ (by
    show SP pg ev below (T124.setTop (mkF mi 87 #[.val (.int x0), .val (.int x1), .val (.int x2), .val (.int x3), .val (.int d4), .val (.int d5), .val (.int f6), .val (.int d7), .val (.int d8), .val (.int f9), .val (.int d10), .val (.int d11), .val (.int f12), .unset, .unset, .unset, .unset, .unset, .unset, .unset, .unset, .unset, .unset, .unset, .unset] [])) _
    refine st130 _ ?_
    exact kk)
  have O134 : Old Z n0 h130 := (O.keep Kq130 all0)
  obtain ⟨T135, h135, L135, x_135, t_135, cl_135, X135, e135, N135, Kq135, fr_x_135, fr_t_135, r135_0, ph135_mmB, ph135_okB, st135⟩ := sw_bean hw d7 d8 f9 zc (.val (.int x0)) (.val (.int x1)) (.val (.int x2)) (.val (.int x3)) (.val (.int d4)) (.val (.int d5)) (.val (.int f6)) (.val (.int d10)) (.val (.int d11)) (.val (.int f12)) (.val (.ref x_130)) (.unset) (.unset) (.unset) (.unset) (.unset) (.unset) (.unset) (.unset) (.unset) (.unset) h130 n0 (X130.more (by decide) (by decide)) hx hby hml hZ hown e130 N130 O134 D0_ (o_d7 : COk d7) (o_d8 : COk d8) (hzc : ¬ (zc = (0 : Int32)))
  have c136 := CHr.keep Kq135 sf0 C132.1
  have C137 := CHr.trans C132 c136
  have pre138 : ∀ tt, SP pg ev below (T135.setTop (mkF mi 157 #[.val (.int x0), .val (.int x1), .val (.int x2), .val (.int x3), .val (.int d4), .val (.int d5), .val (.int f6), .val (.int d7), .val (.int d8), .val (.int f9), .val (.int d10), .val (.int d11), .val (.int f12), .val (.ref x_130), .val (.ref x_135), .unset, .unset, .unset, .unset, .unset, .unset, .unset, .unset, .unset, .unset] [])) tt → SP pg ev below (s₁.setTop (entryFrame mi #[(.int x0), (.int x1), (.int x2), (.int x3)] maxLocals)) tt := fun tt kk => pre133 _ (by
    show SP pg ev below (T130.setTop (mkF mi 122 #[.val (.int x0), .val (.int x1), .val (.int x2), .val (.int x3), .val (.int d4), .val (.int d5), .val (.int f6), .val (.int d7), .val (.int d8), .val (.int f9), .val (.int d10), .val (.int d11), .val (.int f12), .val (.ref x_130), .unset, .unset, .unset, .unset, .unset, .unset, .unset, .unset, .unset, .unset, .unset] [])) _
    refine st135 _ ?_
    exact kk)
  have O139 : Old Z n0 h135 := (O134.keep Kq135 all0)
  obtain ⟨T140, h140, L140, vw_140, cv_140, X140, e140, N140, Kq140, r140_0, ph140_vvV, ph140_okV, st140⟩ := sw_view hw d10 d11 f12 zc (.val (.int x0)) (.val (.int x1)) (.val (.int x2)) (.val (.int x3)) (.val (.int d4)) (.val (.int d5)) (.val (.int f6)) (.val (.int d7)) (.val (.int d8)) (.val (.int f9)) (.val (.ref x_130)) (.val (.ref x_135)) (.unset) (.unset) (.unset) (.unset) (.unset) (.unset) (.unset) (.unset) (.unset) h135 n0 (X135.more (by decide) (by decide)) hx hby hml hZ hown e135 N135 O139 D0_ (o_d10 : COk d10) (o_d11 : COk d11) (hzc : ¬ (zc = (0 : Int32)))
  have c141 := CHr.keep Kq140 sf0 C137.1
  have C142 := CHr.trans C137 c141
  have pre143 : ∀ tt, SP pg ev below (T140.setTop (mkF mi 202 #[.val (.int x0), .val (.int x1), .val (.int x2), .val (.int x3), .val (.int d4), .val (.int d5), .val (.int f6), .val (.int d7), .val (.int d8), .val (.int f9), .val (.int d10), .val (.int d11), .val (.int f12), .val (.ref x_130), .val (.ref x_135), .val vw_140, .unset, .unset, .unset, .unset, .unset, .unset, .unset, .unset, .unset] [])) tt → SP pg ev below (s₁.setTop (entryFrame mi #[(.int x0), (.int x1), (.int x2), (.int x3)] maxLocals)) tt := fun tt kk => pre138 _ (by
    show SP pg ev below (T135.setTop (mkF mi 157 #[.val (.int x0), .val (.int x1), .val (.int x2), .val (.int x3), .val (.int d4), .val (.int d5), .val (.int f6), .val (.int d7), .val (.int d8), .val (.int f9), .val (.int d10), .val (.int d11), .val (.int f12), .val (.ref x_130), .val (.ref x_135), .unset, .unset, .unset, .unset, .unset, .unset, .unset, .unset, .unset, .unset] [])) _
    refine st140 _ ?_
    exact kk)
  have O144 : Old Z n0 h140 := (O139.keep Kq140 all0)
  obtain ⟨T145, h145, L145, va_145, ca_145, X145, e145, N145, Kq145, r145_0, ph145_okA, st145⟩ := sw_app hw x0 zc (.val (.int x1)) (.val (.int x2)) (.val (.int x3)) (.val (.int d4)) (.val (.int d5)) (.val (.int f6)) (.val (.int d7)) (.val (.int d8)) (.val (.int f9)) (.val (.int d10)) (.val (.int d11)) (.val (.int f12)) (.val (.ref x_130)) (.val (.ref x_135)) (.val vw_140) (.unset) (.unset) (.unset) (.unset) (.unset) (.unset) (.unset) (.unset) h140 n0 (X140.more (by decide) (by decide)) hx hby hml hZ hown e140 N140 O144 D0_ (hzc : ¬ (zc = (0 : Int32)))
  have c146 := CHr.keep Kq145 sf0 C142.1
  have C147 := CHr.trans C142 c146
  obtain ⟨T148, h148, X148, e148, E148, A148, D148, -, st148⟩ := newO X145 hx hZ hown (wd30 hw) (wd31 hw) (wd32 hw) e145 (g := (mkF mi 223 #[.val (.int x0), .val (.int x1), .val (.int x2), .val (.int x3), .val (.int d4), .val (.int d5), .val (.int f6), .val (.int d7), .val (.int d8), .val (.int f9), .val (.int d10), .val (.int d11), .val (.int f12), .val (.ref x_130), .val (.ref x_135), .val vw_140, .val va_145, .unset, .unset, .unset, .unset, .unset, .unset, .unset, .unset] [])) rfl (hb hby at_223) (by decide) (by decide)
  obtain ⟨b148, q148⟩ : ∃ z, z = h145.size := ⟨_, rfl⟩
  rw [← q148] at A148 D148 st148
  have c149 := CHr.ext E148 C147.1
  have C150 := CHr.trans C147 c149
  have f151 : Fld Z h148 b148 c0_ "appName" c6_ .null := D148 (Or.inr (wd100 hw)) (ty := (.object c1_)) (by decide)
  have f152 : Fld Z h148 b148 c0_ c28_ c6_ .null := D148 (Or.inr (wd102 hw)) (ty := (.object c1_)) (by decide)
  have f153 : Fld Z h148 b148 c0_ "beanName" c6_ .null := D148 (Or.inr (wd104 hw)) (ty := (.object c1_)) (by decide)
  have f154 : Fld Z h148 b148 c0_ "viewName" c6_ .null := D148 (Or.inr (wd106 hw)) (ty := (.object c1_)) (by decide)
  have O155 : Old Z n0 h148 := ((O144.keep Kq145 all0).ext E148)
  have f156 : OStr Z h148 va_145 ca_145 := r145_0.keep ((Keep.refl h145 []).ext E148)
  have f157 : LStr Z h148 x_130 t_130 cl_130 := ((((r130_0.keep Kq135 nin0 nin0).keep Kq140 nin0 nin0).keep Kq145 nin0 nin0).ext E148)
  have f158 : LStr Z h148 x_135 t_135 cl_135 := (((r135_0.keep Kq140 nin0 nin0).keep Kq145 nin0 nin0).ext E148)
  have f159 : OStr Z h148 vw_140 cv_140 := r140_0.keep (((Keep.refl h140 []).trans Kq145 all0).ext E148)
  have O160 : Old Z n0 h145 := (O144.keep Kq145 all0)
  have g_b148 : n0 ≤ b148 := Nat.le_trans (Nat.le_trans (Nat.le_of_eq O160.1.symm) O160.2.1) (Nat.le_of_eq q148.symm)
  have ne_x_130_b148 : x_130 ≠ b148 := Nat.ne_of_lt (Nat.lt_of_lt_of_le r130_0.lt (Nat.le_trans (Nat.le_trans (Nat.le_trans Kq135.1 Kq140.1) Kq145.1) (Nat.le_of_eq q148.symm)))
  have ne_t_130_b148 : t_130 ≠ b148 := Nat.ne_of_lt (Nat.lt_of_lt_of_le r130_0.ltt (Nat.le_trans (Nat.le_trans (Nat.le_trans Kq135.1 Kq140.1) Kq145.1) (Nat.le_of_eq q148.symm)))
  have ne_x_135_b148 : x_135 ≠ b148 := Nat.ne_of_lt (Nat.lt_of_lt_of_le r135_0.lt (Nat.le_trans (Nat.le_trans Kq140.1 Kq145.1) (Nat.le_of_eq q148.symm)))
  have ne_t_135_b148 : t_135 ≠ b148 := Nat.ne_of_lt (Nat.lt_of_lt_of_le r135_0.ltt (Nat.le_trans (Nat.le_trans Kq140.1 Kq145.1) (Nat.le_of_eq q148.symm)))
  obtain ⟨v161, _, ⟨T161, L161, k161, n161⟩, -, X161, s161, gr161, ⟨Lc161, hQ161, l161, y161, z161, c161⟩, st161⟩ := X148.specialBackS hx (y := mn45) rfl hown (mvT hZ (wd33 hw)) (mvT hZ (wd34 hw)) (mvT hZ (wd35 hw)) (by decide) (backOfSH (W := 1) (rm_ginX la Z a0 hw [] b148 va_145 ca_145 x_130 t_130 cl_130 x_135 t_135 cl_135 vw_140 cv_140 zc h148 n0 O155 A148 f151 f152 f153 f154 f156 f157 f158 f159 D0_ g_b148 ne_x_130_b148 ne_t_130_b148 ne_x_135_b148 ne_t_135_b148 (OStr.isRef f156 : va_145.isRef = true) (ph145_okA.1 : ca_145.length ≠ 0) (ph145_okA.2.2.1 : ∀ c ∈ ca_145, ¬ ((c.toInt8.toInt32) = (47 : Int32))) (ph145_okA.2.2.2 : ∀ c ∈ ca_145, ¬ ((c.toInt8.toInt32) = (33 : Int32))) (ph130_okM.1 : cl_130.length ≠ 0) (ph130_okM.2.2.1 : ∀ c ∈ cl_130, ¬ ((c.toInt8.toInt32) = (47 : Int32))) (ph130_okM.2.2.2 : ∀ c ∈ cl_130, ¬ ((c.toInt8.toInt32) = (33 : Int32))) (ph135_okB.1 : cl_135.length ≠ 0) (ph135_okB.2.2.1 : ∀ c ∈ cl_135, ¬ ((c.toInt8.toInt32) = (47 : Int32))) (ph135_okB.2.2.2 : ∀ c ∈ cl_135, ¬ ((c.toInt8.toInt32) = (33 : Int32))) (OStr.isRef f159 : vw_140.isRef = true) (ph140_okV.1 : cv_140.length ≠ 0) (ph140_okV.2.2.1 : ∀ c ∈ cv_140, ¬ ((c.toInt8.toInt32) = (47 : Int32))) (ph140_okV.2.2.2 : ∀ c ∈ cv_140, ¬ ((c.toInt8.toInt32) = (33 : Int32))) (hzc : ¬ (zc = (0 : Int32)))) hZ (wd35 hw) (wd32 hw) (by decide) (by decide) hEL C150.1) (g := (mkF mi 235 #[.val (.int x0), .val (.int x1), .val (.int x2), .val (.int x3), .val (.int d4), .val (.int d5), .val (.int f6), .val (.int d7), .val (.int d8), .val (.int f9), .val (.int d10), .val (.int d11), .val (.int f12), .val (.ref x_130), .val (.ref x_135), .val vw_140, .val va_145, .unset, .unset, .unset, .unset, .unset, .unset, .unset, .unset] [vw_140, (.ref x_135), (.ref x_130), va_145, (.ref b148), (.ref b148)])) rfl (by rw [hml]; rfl) (Steps.refl _) (a := b148) (argsL := [va_145, (.ref x_130), (.ref x_135), vw_140]) (rest := [(.ref b148)]) (lenOf pd_29 rfl) rfl (Nat.le_of_ble_eq_true rfl) (hb hby at_235) (fun _ _ => ⟨rfl, e148, (by decide : 12 + 24 ≤ _), (by decide : 57 + 324 ≤ _)⟩)
  dsimp only [Pt.U, Pt.locs, Pt.cells, Pt.slots] at X161 s161 gr161 l161 y161 z161 c161 st161 hQ161
  subst l161 y161 z161
  obtain ⟨X161, hS, hZ, hown⟩ := rebS hS (show _ ≤ T148.heap.size by rw [e148]; exact (Nat.le_trans hk (Nat.le_trans (Nat.le_trans (Nat.le_trans (Nat.le_trans Kq130.1 Kq135.1) Kq140.1) Kq145.1) E148.1))) X161 s161 gr161 hZ hown
  have hk : T161.heap.size ≤ T161.heap.size := Nat.le_refl _
  obtain ⟨rfl, Nq161, Kq161, r161_0, r161_1, r161_2, r161_3⟩ := hQ161
  have N161 := Fr.app N145 Nq161
  have C162 := CHr.trans C150 c161
  have O163 : Old Z n0 T161.heap := (O155.keep Kq161 (allS g_b148 all0))
  have f164 : LStr Z T161.heap x_130 t_130 cl_130 := (f157.keep Kq161 (ninS ne_x_130_b148 nin0) (ninS ne_t_130_b148 nin0))
  have f165 : LStr Z T161.heap x_135 t_135 cl_135 := (f158.keep Kq161 (ninS ne_x_135_b148 nin0) (ninS ne_t_135_b148 nin0))
  have f166 : OStr Z T161.heap vw_140 cv_140 := r140_0.keep ((((Keep.refl h140 []).trans Kq145 all0).ext E148).trans Kq161 (allS (Or.inr (Nat.le_trans Kq145.1 (Nat.le_of_eq q148.symm))) all0))
  obtain ⟨cq167, kq167, q167a, q167b, q167c⟩ := isOf hZ rfl r161_0
  obtain ⟨v167, _, ⟨T167, L167, k167, n167⟩, -, X167, s167, gr167, ⟨Lc167, hQ167, l167, y167, z167, c167⟩, st167⟩ := X161.virtualBackS hx (y := mn47) (z := mn47) hown (mvT hZ (wd107 hw)) (mvT hZ (wd108 hw)) (notFace_of_selects (args := #[]) (mvT hZ (wd110 hw))) (mvT hZ (wd110 hw)) (mvT hZ (wd109 hw)) (by decide) (backOfSH (W := 0) (rm_iaX la Z a0 hw [] b148 x_130 t_130 cl_130 x_135 t_135 cl_135 vw_140 cv_140 zc T161.heap n0 O163 r161_0 r161_1 f164 r161_2 f165 r161_3 f166 D0_ (ph130_okM.2.1 : cl_130.length ≤ 2) (ph135_okB.2.1 : cl_135.length ≤ 2) (ph140_okV.2.1 : cv_140.length ≤ 2) (hzc : ¬ (zc = (0 : Int32)))) hZ (wd111 hw) (wd32 hw) (by decide) (by decide) hEL C162.1) q167a q167c (g := (mkF mi 242 #[.val (.int x0), .val (.int x1), .val (.int x2), .val (.int x3), .val (.int d4), .val (.int d5), .val (.int f6), .val (.int d7), .val (.int d8), .val (.int f9), .val (.int d10), .val (.int d11), .val (.int f12), .val (.ref x_130), .val (.ref x_135), .val vw_140, .val va_145, .val (.ref b148), .unset, .unset, .unset, .unset, .unset, .unset, .unset] [(.ref b148)])) rfl (by rw [hml]; rfl) (Steps.refl _) (argsL := []) (rest := []) (lenOf pd_24 rfl) rfl (Nat.le_of_ble_eq_true rfl) (hb hby at_242) (fun _ _ => ⟨rfl, rfl, (by decide : 36 + 21 ≤ _), (by decide : 381 + 1184 ≤ _)⟩)
  dsimp only [Pt.U, Pt.locs, Pt.cells, Pt.slots] at X167 s167 gr167 l167 y167 z167 c167 st167 hQ167
  subst l167 y167 z167
  obtain ⟨X167, hS, hZ, hown⟩ := rebS hS (show _ ≤ T161.heap.size from hk) X167 s167 gr167 hZ hown
  have hk : T167.heap.size ≤ T167.heap.size := Nat.le_refl _
  obtain ⟨x_167, t_167, rfl, Nq167, Kq167, fr_x_167, fr_t_167, r167_0⟩ := hQ167
  have N167 := Fr.app N161 Nq167
  have C168 := CHr.trans C162 c167
  obtain ⟨rr, he_rr⟩ : ∃ z : List Int32, z = (((cl_130 ++ [(47 : Int32)]) ++ cl_135) ++ svF vw_140 cv_140) := ⟨_, rfl⟩
  have sR : LStr Z T167.heap x_167 t_167 (([(106 : Int32), (97 : Int32), (118 : Int32), (97 : Int32), (58 : Int32), (97 : Int32), (112 : Int32), (112 : Int32), (47 : Int32)] : List Int32) ++ rr) := by rw [he_rr]; exact r167_0
  have pre169 : ∀ tt, SP pg ev below (T167.setTop (mkF mi 247 #[.val (.int x0), .val (.int x1), .val (.int x2), .val (.int x3), .val (.int d4), .val (.int d5), .val (.int f6), .val (.int d7), .val (.int d8), .val (.int f9), .val (.int d10), .val (.int d11), .val (.int f12), .val (.ref x_130), .val (.ref x_135), .val vw_140, .val va_145, .val (.ref b148), .val (.ref x_167), .unset, .unset, .unset, .unset, .unset, .unset] [])) tt → SP pg ev below (s₁.setTop (entryFrame mi #[(.int x0), (.int x1), (.int x2), (.int x3)] maxLocals)) tt := fun tt kk => pre143 _ (by
    show SP pg ev below (T140.setTop (mkF mi 202 #[.val (.int x0), .val (.int x1), .val (.int x2), .val (.int x3), .val (.int d4), .val (.int d5), .val (.int f6), .val (.int d7), .val (.int d8), .val (.int f9), .val (.int d10), .val (.int d11), .val (.int f12), .val (.ref x_130), .val (.ref x_135), .val vw_140, .unset, .unset, .unset, .unset, .unset, .unset, .unset, .unset, .unset] [])) _
    refine st145 _ ?_
    refine st148 _ ?_
    refine XS.dup X148.here hx rfl (hb hby at_226) rfl rfl ?_
    refine XS.aload X148.here hx rfl (hb hby at_227) rfl (OStr.isRef r145_0) ?_
    refine XS.aload X148.here hx rfl (hb hby at_229) rfl rfl ?_
    refine XS.aload X148.here hx rfl (hb hby at_231) rfl rfl ?_
    refine XS.aload X148.here hx rfl (hb hby at_233) rfl (OStr.isRef r140_0) ?_
    refine st161.trans ?_
    refine XS.astore X161.here hx rfl (hb hby at_238) rfl rfl (l' := #[.val (.int x0), .val (.int x1), .val (.int x2), .val (.int x3), .val (.int d4), .val (.int d5), .val (.int f6), .val (.int d7), .val (.int d8), .val (.int f9), .val (.int d10), .val (.int d11), .val (.int f12), .val (.ref x_130), .val (.ref x_135), .val vw_140, .val va_145, .val (.ref b148), .unset, .unset, .unset, .unset, .unset, .unset, .unset]) rfl ?_
    refine XS.aload X161.here hx rfl (hb hby at_240) rfl rfl ?_
    refine st167.trans ?_
    refine XS.astore X167.here hx rfl (hb hby at_245) rfl rfl (l' := #[.val (.int x0), .val (.int x1), .val (.int x2), .val (.int x3), .val (.int d4), .val (.int d5), .val (.int f6), .val (.int d7), .val (.int d8), .val (.int f9), .val (.int d10), .val (.int d11), .val (.int f12), .val (.ref x_130), .val (.ref x_135), .val vw_140, .val va_145, .val (.ref b148), .val (.ref x_167), .unset, .unset, .unset, .unset, .unset, .unset]) rfl ?_
    exact kk)
  have pre171 : ∀ tt, SP pg ev below (T167.setTop (mkF mi 257 #[.val (.int x0), .val (.int x1), .val (.int x2), .val (.int x3), .val (.int d4), .val (.int d5), .val (.int f6), .val (.int d7), .val (.int d8), .val (.int f9), .val (.int d10), .val (.int d11), .val (.int f12), .val (.ref x_130), .val (.ref x_135), .val vw_140, .val va_145, .val (.ref b148), .val (.ref x_167), .unset, .unset, .unset, .unset, .unset, .unset] [(.int (if f6 = (0 : Int32) then (1 : Int32) else (2 : Int32)))])) tt → SP pg ev below (s₁.setTop (entryFrame mi #[(.int x0), (.int x1), (.int x2), (.int x3)] maxLocals)) tt := fun tt kk => pre169 _ (by
    show SP pg ev below (T167.setTop (mkF mi 247 #[.val (.int x0), .val (.int x1), .val (.int x2), .val (.int x3), .val (.int d4), .val (.int d5), .val (.int f6), .val (.int d7), .val (.int d8), .val (.int f9), .val (.int d10), .val (.int d11), .val (.int f12), .val (.ref x_130), .val (.ref x_135), .val vw_140, .val va_145, .val (.ref b148), .val (.ref x_167), .unset, .unset, .unset, .unset, .unset, .unset] [])) _
    refine XS.iload X167.here hx rfl (hb hby at_247) rfl ?_
    by_cases hm170 : f6 = (0 : Int32)
    · try simp only [if_pos hm170] at kk
      show SP pg ev below (T167.setTop (mkF mi 249 #[.val (.int x0), .val (.int x1), .val (.int x2), .val (.int x3), .val (.int d4), .val (.int d5), .val (.int f6), .val (.int d7), .val (.int d8), .val (.int f9), .val (.int d10), .val (.int d11), .val (.int f12), .val (.ref x_130), .val (.ref x_135), .val vw_140, .val va_145, .val (.ref b148), .val (.ref x_167), .unset, .unset, .unset, .unset, .unset, .unset] [(.int f6)])) _
      refine XS.ifYes X167.here hx rfl (pc0 := 249) (pc' := 256) rfl (hb hby at_249) rfl ((if0 _ _).trans (teq hm170).1) (by decide) (by decide) ?_
      refine XS.iconst X167.here hx rfl (hb hby at_256) ?_
      exact kk
    · try simp only [if_neg hm170] at kk
      show SP pg ev below (T167.setTop (mkF mi 249 #[.val (.int x0), .val (.int x1), .val (.int x2), .val (.int x3), .val (.int d4), .val (.int d5), .val (.int f6), .val (.int d7), .val (.int d8), .val (.int f9), .val (.int d10), .val (.int d11), .val (.int f12), .val (.ref x_130), .val (.ref x_135), .val vw_140, .val va_145, .val (.ref b148), .val (.ref x_167), .unset, .unset, .unset, .unset, .unset, .unset] [(.int f6)])) _
      refine XS.ifNo X167.here hx rfl (hb hby at_249) rfl ((if0 _ _).trans (feq hm170).1) ?_
      refine XS.iconst X167.here hx rfl (hb hby at_252) ?_
      refine XS.goto X167.here hx rfl (pc0 := 253) (pc' := 257) rfl (hb hby at_253) (by decide) (by decide) ?_
      exact kk)
  obtain ⟨n19, he_n19⟩ : ∃ z, z = (if f6 = (0 : Int32) then (1 : Int32) else (2 : Int32)) := ⟨_, rfl⟩
  have pre172 : ∀ tt, SP pg ev below (T167.setTop (mkF mi 257 #[.val (.int x0), .val (.int x1), .val (.int x2), .val (.int x3), .val (.int d4), .val (.int d5), .val (.int f6), .val (.int d7), .val (.int d8), .val (.int f9), .val (.int d10), .val (.int d11), .val (.int f12), .val (.ref x_130), .val (.ref x_135), .val vw_140, .val va_145, .val (.ref b148), .val (.ref x_167), .unset, .unset, .unset, .unset, .unset, .unset] [(.int n19)])) tt → SP pg ev below (s₁.setTop (entryFrame mi #[(.int x0), (.int x1), (.int x2), (.int x3)] maxLocals)) tt := fun tt kk => pre171 tt (by rw [← he_n19]; exact kk)
  have pre173 : ∀ tt, SP pg ev below (T167.setTop (mkF mi 259 #[.val (.int x0), .val (.int x1), .val (.int x2), .val (.int x3), .val (.int d4), .val (.int d5), .val (.int f6), .val (.int d7), .val (.int d8), .val (.int f9), .val (.int d10), .val (.int d11), .val (.int f12), .val (.ref x_130), .val (.ref x_135), .val vw_140, .val va_145, .val (.ref b148), .val (.ref x_167), .val (.int n19), .unset, .unset, .unset, .unset, .unset] [])) tt → SP pg ev below (s₁.setTop (entryFrame mi #[(.int x0), (.int x1), (.int x2), (.int x3)] maxLocals)) tt := fun tt kk => pre172 _ (by
    show SP pg ev below (T167.setTop (mkF mi 257 #[.val (.int x0), .val (.int x1), .val (.int x2), .val (.int x3), .val (.int d4), .val (.int d5), .val (.int f6), .val (.int d7), .val (.int d8), .val (.int f9), .val (.int d10), .val (.int d11), .val (.int f12), .val (.ref x_130), .val (.ref x_135), .val vw_140, .val va_145, .val (.ref b148), .val (.ref x_167), .unset, .unset, .unset, .unset, .unset, .unset] [(.int n19)])) _
    refine XS.istore X167.here hx rfl (hb hby at_257) rfl (l' := #[.val (.int x0), .val (.int x1), .val (.int x2), .val (.int x3), .val (.int d4), .val (.int d5), .val (.int f6), .val (.int d7), .val (.int d8), .val (.int f9), .val (.int d10), .val (.int d11), .val (.int f12), .val (.ref x_130), .val (.ref x_135), .val vw_140, .val va_145, .val (.ref b148), .val (.ref x_167), .val (.int n19), .unset, .unset, .unset, .unset, .unset]) rfl ?_
    exact kk)
  have pre175 : ∀ tt, SP pg ev below (T167.setTop (mkF mi 269 #[.val (.int x0), .val (.int x1), .val (.int x2), .val (.int x3), .val (.int d4), .val (.int d5), .val (.int f6), .val (.int d7), .val (.int d8), .val (.int f9), .val (.int d10), .val (.int d11), .val (.int f12), .val (.ref x_130), .val (.ref x_135), .val vw_140, .val va_145, .val (.ref b148), .val (.ref x_167), .val (.int n19), .unset, .unset, .unset, .unset, .unset] [(.int (if f9 = (0 : Int32) then (1 : Int32) else (2 : Int32)))])) tt → SP pg ev below (s₁.setTop (entryFrame mi #[(.int x0), (.int x1), (.int x2), (.int x3)] maxLocals)) tt := fun tt kk => pre173 _ (by
    show SP pg ev below (T167.setTop (mkF mi 259 #[.val (.int x0), .val (.int x1), .val (.int x2), .val (.int x3), .val (.int d4), .val (.int d5), .val (.int f6), .val (.int d7), .val (.int d8), .val (.int f9), .val (.int d10), .val (.int d11), .val (.int f12), .val (.ref x_130), .val (.ref x_135), .val vw_140, .val va_145, .val (.ref b148), .val (.ref x_167), .val (.int n19), .unset, .unset, .unset, .unset, .unset] [])) _
    refine XS.iload X167.here hx rfl (hb hby at_259) rfl ?_
    by_cases hm174 : f9 = (0 : Int32)
    · try simp only [if_pos hm174] at kk
      show SP pg ev below (T167.setTop (mkF mi 261 #[.val (.int x0), .val (.int x1), .val (.int x2), .val (.int x3), .val (.int d4), .val (.int d5), .val (.int f6), .val (.int d7), .val (.int d8), .val (.int f9), .val (.int d10), .val (.int d11), .val (.int f12), .val (.ref x_130), .val (.ref x_135), .val vw_140, .val va_145, .val (.ref b148), .val (.ref x_167), .val (.int n19), .unset, .unset, .unset, .unset, .unset] [(.int f9)])) _
      refine XS.ifYes X167.here hx rfl (pc0 := 261) (pc' := 268) rfl (hb hby at_261) rfl ((if0 _ _).trans (teq hm174).1) (by decide) (by decide) ?_
      refine XS.iconst X167.here hx rfl (hb hby at_268) ?_
      exact kk
    · try simp only [if_neg hm174] at kk
      show SP pg ev below (T167.setTop (mkF mi 261 #[.val (.int x0), .val (.int x1), .val (.int x2), .val (.int x3), .val (.int d4), .val (.int d5), .val (.int f6), .val (.int d7), .val (.int d8), .val (.int f9), .val (.int d10), .val (.int d11), .val (.int f12), .val (.ref x_130), .val (.ref x_135), .val vw_140, .val va_145, .val (.ref b148), .val (.ref x_167), .val (.int n19), .unset, .unset, .unset, .unset, .unset] [(.int f9)])) _
      refine XS.ifNo X167.here hx rfl (hb hby at_261) rfl ((if0 _ _).trans (feq hm174).1) ?_
      refine XS.iconst X167.here hx rfl (hb hby at_264) ?_
      refine XS.goto X167.here hx rfl (pc0 := 265) (pc' := 269) rfl (hb hby at_265) (by decide) (by decide) ?_
      exact kk)
  obtain ⟨n20, he_n20⟩ : ∃ z, z = (if f9 = (0 : Int32) then (1 : Int32) else (2 : Int32)) := ⟨_, rfl⟩
  have pre176 : ∀ tt, SP pg ev below (T167.setTop (mkF mi 269 #[.val (.int x0), .val (.int x1), .val (.int x2), .val (.int x3), .val (.int d4), .val (.int d5), .val (.int f6), .val (.int d7), .val (.int d8), .val (.int f9), .val (.int d10), .val (.int d11), .val (.int f12), .val (.ref x_130), .val (.ref x_135), .val vw_140, .val va_145, .val (.ref b148), .val (.ref x_167), .val (.int n19), .unset, .unset, .unset, .unset, .unset] [(.int n20)])) tt → SP pg ev below (s₁.setTop (entryFrame mi #[(.int x0), (.int x1), (.int x2), (.int x3)] maxLocals)) tt := fun tt kk => pre175 tt (by rw [← he_n20]; exact kk)
  have pre177 : ∀ tt, SP pg ev below (T167.setTop (mkF mi 271 #[.val (.int x0), .val (.int x1), .val (.int x2), .val (.int x3), .val (.int d4), .val (.int d5), .val (.int f6), .val (.int d7), .val (.int d8), .val (.int f9), .val (.int d10), .val (.int d11), .val (.int f12), .val (.ref x_130), .val (.ref x_135), .val vw_140, .val va_145, .val (.ref b148), .val (.ref x_167), .val (.int n19), .val (.int n20), .unset, .unset, .unset, .unset] [])) tt → SP pg ev below (s₁.setTop (entryFrame mi #[(.int x0), (.int x1), (.int x2), (.int x3)] maxLocals)) tt := fun tt kk => pre176 _ (by
    show SP pg ev below (T167.setTop (mkF mi 269 #[.val (.int x0), .val (.int x1), .val (.int x2), .val (.int x3), .val (.int d4), .val (.int d5), .val (.int f6), .val (.int d7), .val (.int d8), .val (.int f9), .val (.int d10), .val (.int d11), .val (.int f12), .val (.ref x_130), .val (.ref x_135), .val vw_140, .val va_145, .val (.ref b148), .val (.ref x_167), .val (.int n19), .unset, .unset, .unset, .unset, .unset] [(.int n20)])) _
    refine XS.istore X167.here hx rfl (hb hby at_269) rfl (l' := #[.val (.int x0), .val (.int x1), .val (.int x2), .val (.int x3), .val (.int d4), .val (.int d5), .val (.int f6), .val (.int d7), .val (.int d8), .val (.int f9), .val (.int d10), .val (.int d11), .val (.int f12), .val (.ref x_130), .val (.ref x_135), .val vw_140, .val va_145, .val (.ref b148), .val (.ref x_167), .val (.int n19), .val (.int n20), .unset, .unset, .unset, .unset]) rfl ?_
    exact kk)
  have pre179 : ∀ tt, SP pg ev below (T167.setTop (mkF mi 284 #[.val (.int x0), .val (.int x1), .val (.int x2), .val (.int x3), .val (.int d4), .val (.int d5), .val (.int f6), .val (.int d7), .val (.int d8), .val (.int f9), .val (.int d10), .val (.int d11), .val (.int f12), .val (.ref x_130), .val (.ref x_135), .val vw_140, .val va_145, .val (.ref b148), .val (.ref x_167), .val (.int n19), .val (.int n20), .unset, .unset, .unset, .unset] [(.int (if f12 = (0 : Int32) then (0 : Int32) else ((1 : Int32) + f12)))])) tt → SP pg ev below (s₁.setTop (entryFrame mi #[(.int x0), (.int x1), (.int x2), (.int x3)] maxLocals)) tt := fun tt kk => pre177 _ (by
    show SP pg ev below (T167.setTop (mkF mi 271 #[.val (.int x0), .val (.int x1), .val (.int x2), .val (.int x3), .val (.int d4), .val (.int d5), .val (.int f6), .val (.int d7), .val (.int d8), .val (.int f9), .val (.int d10), .val (.int d11), .val (.int f12), .val (.ref x_130), .val (.ref x_135), .val vw_140, .val va_145, .val (.ref b148), .val (.ref x_167), .val (.int n19), .val (.int n20), .unset, .unset, .unset, .unset] [])) _
    refine XS.iload X167.here hx rfl (hb hby at_271) rfl ?_
    by_cases hm178 : f12 = (0 : Int32)
    · try simp only [if_pos hm178] at kk
      show SP pg ev below (T167.setTop (mkF mi 273 #[.val (.int x0), .val (.int x1), .val (.int x2), .val (.int x3), .val (.int d4), .val (.int d5), .val (.int f6), .val (.int d7), .val (.int d8), .val (.int f9), .val (.int d10), .val (.int d11), .val (.int f12), .val (.ref x_130), .val (.ref x_135), .val vw_140, .val va_145, .val (.ref b148), .val (.ref x_167), .val (.int n19), .val (.int n20), .unset, .unset, .unset, .unset] [(.int f12)])) _
      refine XS.ifNo X167.here hx rfl (hb hby at_273) rfl ((if0 _ _).trans (teq hm178).2) ?_
      refine XS.iconst X167.here hx rfl (hb hby at_276) ?_
      refine XS.goto X167.here hx rfl (pc0 := 277) (pc' := 284) rfl (hb hby at_277) (by decide) (by decide) ?_
      exact kk
    · try simp only [if_neg hm178] at kk
      show SP pg ev below (T167.setTop (mkF mi 273 #[.val (.int x0), .val (.int x1), .val (.int x2), .val (.int x3), .val (.int d4), .val (.int d5), .val (.int f6), .val (.int d7), .val (.int d8), .val (.int f9), .val (.int d10), .val (.int d11), .val (.int f12), .val (.ref x_130), .val (.ref x_135), .val vw_140, .val va_145, .val (.ref b148), .val (.ref x_167), .val (.int n19), .val (.int n20), .unset, .unset, .unset, .unset] [(.int f12)])) _
      refine XS.ifYes X167.here hx rfl (pc0 := 273) (pc' := 280) rfl (hb hby at_273) rfl ((if0 _ _).trans (feq hm178).2) (by decide) (by decide) ?_
      refine XS.iconst X167.here hx rfl (hb hby at_280) ?_
      refine XS.iload X167.here hx rfl (hb hby at_281) rfl ?_
      refine XS.iadd X167.here hx rfl (hb hby at_283) rfl ?_
      exact kk)
  obtain ⟨n21, he_n21⟩ : ∃ z, z = (if f12 = (0 : Int32) then (0 : Int32) else ((1 : Int32) + f12)) := ⟨_, rfl⟩
  have pre180 : ∀ tt, SP pg ev below (T167.setTop (mkF mi 284 #[.val (.int x0), .val (.int x1), .val (.int x2), .val (.int x3), .val (.int d4), .val (.int d5), .val (.int f6), .val (.int d7), .val (.int d8), .val (.int f9), .val (.int d10), .val (.int d11), .val (.int f12), .val (.ref x_130), .val (.ref x_135), .val vw_140, .val va_145, .val (.ref b148), .val (.ref x_167), .val (.int n19), .val (.int n20), .unset, .unset, .unset, .unset] [(.int n21)])) tt → SP pg ev below (s₁.setTop (entryFrame mi #[(.int x0), (.int x1), (.int x2), (.int x3)] maxLocals)) tt := fun tt kk => pre179 tt (by rw [← he_n21]; exact kk)
  have O181 : Old Z n0 T167.heap := (O163.keep Kq167 all0)
  obtain ⟨cq182, kq182, q182a, q182b, q182c⟩ := isOf hZ rfl (sR).1
  obtain ⟨v182, _, ⟨T182, L182, k182, n182⟩, -, X182, ⟨Lc182, hQ182, l182, y182, z182⟩, st182⟩ := X167.virtualBack hx (y := mn1) (z := mn1) hown (mvT hZ (wd223 hw)) (mvT hZ (wd142 hw)) (notFace_of_selects (args := #[]) (mvT hZ (wd144 hw))) (mvT hZ (wd144 hw)) (mvT hZ (wd143 hw)) (by decide) (backOf (W := 0) (rm_slen la Z a0 hw [] x_167 t_167 (([(106 : Int32), (97 : Int32), (118 : Int32), (97 : Int32), (58 : Int32), (97 : Int32), (112 : Int32), (112 : Int32), (47 : Int32)] : List Int32) ++ rr) zc T167.heap n0 O181 sR D0_ (hzc : ¬ (zc = (0 : Int32)))) hZ (wd145 hw) (wd6 hw) (by decide) (by decide)) q182a q182c (g := (mkF mi 293 #[.val (.int x0), .val (.int x1), .val (.int x2), .val (.int x3), .val (.int d4), .val (.int d5), .val (.int f6), .val (.int d7), .val (.int d8), .val (.int f9), .val (.int d10), .val (.int d11), .val (.int f12), .val (.ref x_130), .val (.ref x_135), .val vw_140, .val va_145, .val (.ref b148), .val (.ref x_167), .val (.int n19), .val (.int n20), .val (.int n21), .unset, .unset, .unset] [(.ref x_167)])) rfl (by rw [hml]; rfl) (Steps.refl _) (argsL := []) (rest := []) (lenOf pd_12 rfl) rfl (Nat.le_of_ble_eq_true rfl) (hb hby at_293) (fun _ _ => ⟨rfl, rfl, (by decide : 57 + 0 ≤ _), (by decide : 1565 + 0 ≤ _)⟩)
  dsimp only [Pt.U, Pt.locs, Pt.cells, Pt.slots] at X182 l182 y182 z182 st182 hQ182
  subst l182 y182 z182
  obtain ⟨rfl, Nq182, ek182⟩ := hQ182
  have N182 := Fr.app N167 Nq182
  obtain ⟨v183, _, ⟨T183, L183, k183, n183⟩, -, X183, ⟨Lc183, hQ183, l183, y183, z183⟩, st183⟩ := Jvm.LawKit.callS X182 hx (y := mn49) hown (mvT hZ (wd224 hw)) (mvT hZ (wd225 hw)) (mvT hZ (wd2 hw)) (mvT hZ (wd226 hw)) (by decide) (backOf (W := 0) (rm_pok la Z a0 hw [] x_167 t_167 rr zc fm T167.heap n0 O181 sR D0_ D1_ (hzc : ¬ (zc = (0 : Int32))) (hfm : fm.isRef = true)) hZ (wd226 hw) (wd2 hw) (by decide) (by decide)) (g := (mkF mi 316 #[.val (.int x0), .val (.int x1), .val (.int x2), .val (.int x3), .val (.int d4), .val (.int d5), .val (.int f6), .val (.int d7), .val (.int d8), .val (.int f9), .val (.int d10), .val (.int d11), .val (.int f12), .val (.ref x_130), .val (.ref x_135), .val vw_140, .val va_145, .val (.ref b148), .val (.ref x_167), .val (.int n19), .val (.int n20), .val (.int n21), .unset, .unset, .unset] [(.ref x_167)])) rfl (by rw [hml]; rfl) (argsL := [(.ref x_167)]) (rest := []) (lenOf pd_34 rfl) rfl (Nat.le_of_ble_eq_true rfl) (hb hby at_316) (fun _ _ => ⟨rfl, ek182, (by decide : 57 + 0 ≤ _), (by decide : 1565 + 0 ≤ _)⟩)
  dsimp only [Pt.U, Pt.locs, Pt.cells, Pt.slots] at X183 l183 y183 z183 st183 hQ183
  subst l183 y183 z183
  obtain ⟨rfl, Nq183, ek183⟩ := hQ183
  have N183 := Fr.app N182 Nq183
  have pre184 : ∀ tt, SP pg ev below (T183.setTop (mkF mi 326 #[.val (.int x0), .val (.int x1), .val (.int x2), .val (.int x3), .val (.int d4), .val (.int d5), .val (.int f6), .val (.int d7), .val (.int d8), .val (.int f9), .val (.int d10), .val (.int d11), .val (.int f12), .val (.ref x_130), .val (.ref x_135), .val vw_140, .val va_145, .val (.ref b148), .val (.ref x_167), .val (.int n19), .val (.int n20), .val (.int n21), .val (.int 1), .unset, .unset] [])) tt → SP pg ev below (s₁.setTop (entryFrame mi #[(.int x0), (.int x1), (.int x2), (.int x3)] maxLocals)) tt := fun tt kk => pre180 _ (by
    show SP pg ev below (T167.setTop (mkF mi 284 #[.val (.int x0), .val (.int x1), .val (.int x2), .val (.int x3), .val (.int d4), .val (.int d5), .val (.int f6), .val (.int d7), .val (.int d8), .val (.int f9), .val (.int d10), .val (.int d11), .val (.int f12), .val (.ref x_130), .val (.ref x_135), .val vw_140, .val va_145, .val (.ref b148), .val (.ref x_167), .val (.int n19), .val (.int n20), .unset, .unset, .unset, .unset] [(.int n21)])) _
    refine XS.istore X167.here hx rfl (hb hby at_284) rfl (l' := #[.val (.int x0), .val (.int x1), .val (.int x2), .val (.int x3), .val (.int d4), .val (.int d5), .val (.int f6), .val (.int d7), .val (.int d8), .val (.int f9), .val (.int d10), .val (.int d11), .val (.int f12), .val (.ref x_130), .val (.ref x_135), .val vw_140, .val va_145, .val (.ref b148), .val (.ref x_167), .val (.int n19), .val (.int n20), .val (.int n21), .unset, .unset, .unset]) rfl ?_
    refine XS.aload X167.here hx rfl (hb hby at_286) rfl rfl ?_
    refine XS.ifnullNo X167.here hx rfl (hb hby at_288) rfl ?_
    refine XS.aload X167.here hx rfl (hb hby at_291) rfl rfl ?_
    refine st182.trans ?_
    refine XS.bipush X182.here hx rfl (hb hby at_296) ?_
    refine XS.iload X182.here hx rfl (hb hby at_298) rfl ?_
    refine XS.iadd X182.here hx rfl (hb hby at_300) rfl ?_
    refine XS.iconst X182.here hx rfl (hb hby at_301) ?_
    refine XS.iadd X182.here hx rfl (hb hby at_302) rfl ?_
    refine XS.iload X182.here hx rfl (hb hby at_303) rfl ?_
    refine XS.iadd X182.here hx rfl (hb hby at_305) rfl ?_
    refine XS.iload X182.here hx rfl (hb hby at_306) rfl ?_
    refine XS.iadd X182.here hx rfl (hb hby at_308) rfl ?_
    refine XS.icmpYes X182.here hx rfl (pc0 := 309) (pc' := 314) rfl (hb hby at_309) rfl (teq (own_len ph130_mmM ph135_mmB ph140_vvV h12 he_n19 he_n20 he_n21 he_rr)).1 (by decide) (by decide) ?_
    refine XS.aload X182.here hx rfl (hb hby at_314) rfl rfl ?_
    refine st183 _ ?_
    refine XS.istore X183.here hx rfl (hb hby at_319) rfl (l' := #[.val (.int x0), .val (.int x1), .val (.int x2), .val (.int x3), .val (.int d4), .val (.int d5), .val (.int f6), .val (.int d7), .val (.int d8), .val (.int f9), .val (.int d10), .val (.int d11), .val (.int f12), .val (.ref x_130), .val (.ref x_135), .val vw_140, .val va_145, .val (.ref b148), .val (.ref x_167), .val (.int n19), .val (.int n20), .val (.int n21), .val (.int 1), .unset, .unset]) rfl ?_
    refine XS.iload X183.here hx rfl (hb hby at_321) rfl ?_
    refine XS.ifNo X183.here hx rfl (hb hby at_323) rfl ((if0 _ _).trans (feq (by decide : ¬ ((1 : Int32) = (0 : Int32)))).1) ?_
    exact kk)
  obtain ⟨T185, h185, L185, X185, e185, N185, Kq185, st185⟩ := sw_pm hw x_167 t_167 (([(106 : Int32), (97 : Int32), (118 : Int32), (97 : Int32), (58 : Int32), (97 : Int32), (112 : Int32), (112 : Int32), (47 : Int32)] : List Int32) ++ rr) d4 d5 f6 zc fm (.val (.int x0)) (.val (.int x1)) (.val (.int x2)) (.val (.int x3)) (.val (.int d7)) (.val (.int d8)) (.val (.int f9)) (.val (.int d10)) (.val (.int d11)) (.val (.int f12)) (.val (.ref x_130)) (.val (.ref x_135)) (.val vw_140) (.val va_145) (.val (.ref b148)) (.val (.int n19)) (.val (.int n20)) (.val (.int n21)) (.unset) (.unset) T167.heap n0 (X183.more (by decide) (by decide)) hx hby hml hZ hown ek183 N183 O181 sR D0_ D1_ ((own_E ph130_mmM he_rr).1 : 9 < (([(106 : Int32), (97 : Int32), (118 : Int32), (97 : Int32), (58 : Int32), (97 : Int32), (112 : Int32), (112 : Int32), (47 : Int32)] : List Int32) ++ rr).length ∧ (([(106 : Int32), (97 : Int32), (118 : Int32), (97 : Int32), (58 : Int32), (97 : Int32), (112 : Int32), (112 : Int32), (47 : Int32)] : List Int32) ++ rr).getD 9 0 = d4) ((own_E ph130_mmM he_rr).2 : ¬ (f6 = (0 : Int32)) → 10 < (([(106 : Int32), (97 : Int32), (118 : Int32), (97 : Int32), (58 : Int32), (97 : Int32), (112 : Int32), (112 : Int32), (47 : Int32)] : List Int32) ++ rr).length ∧ (([(106 : Int32), (97 : Int32), (118 : Int32), (97 : Int32), (58 : Int32), (97 : Int32), (112 : Int32), (112 : Int32), (47 : Int32)] : List Int32) ++ rr).getD 10 0 = d5) (hzc : ¬ (zc = (0 : Int32))) (hfm : fm.isRef = true)
  have c186 := CHr.keep Kq185 sf0 C168.1
  have C187 := CHr.trans C168 c186
  obtain ⟨n23, he_n23⟩ : ∃ z, z = ((9 : Int32) + n19) := ⟨_, rfl⟩
  have pre188 : ∀ tt, SP pg ev below (T185.setTop (mkF mi 367 #[.val (.int x0), .val (.int x1), .val (.int x2), .val (.int x3), .val (.int d4), .val (.int d5), .val (.int f6), .val (.int d7), .val (.int d8), .val (.int f9), .val (.int d10), .val (.int d11), .val (.int f12), .val (.ref x_130), .val (.ref x_135), .val vw_140, .val va_145, .val (.ref b148), .val (.ref x_167), .val (.int n19), .val (.int n20), .val (.int n21), .val (.int 1), .unset, .unset] [(.int ((9 : Int32) + n19))])) tt → SP pg ev below (s₁.setTop (entryFrame mi #[(.int x0), (.int x1), (.int x2), (.int x3)] maxLocals)) tt := fun tt kk => pre184 _ (by
    show SP pg ev below (T183.setTop (mkF mi 326 #[.val (.int x0), .val (.int x1), .val (.int x2), .val (.int x3), .val (.int d4), .val (.int d5), .val (.int f6), .val (.int d7), .val (.int d8), .val (.int f9), .val (.int d10), .val (.int d11), .val (.int f12), .val (.ref x_130), .val (.ref x_135), .val vw_140, .val va_145, .val (.ref b148), .val (.ref x_167), .val (.int n19), .val (.int n20), .val (.int n21), .val (.int 1), .unset, .unset] [])) _
    refine st185 _ ?_
    refine XS.bipush X185.here hx rfl (hb hby at_362) ?_
    refine XS.iload X185.here hx rfl (hb hby at_364) rfl ?_
    refine XS.iadd X185.here hx rfl (hb hby at_366) rfl ?_
    exact kk)
  have pre189 : ∀ tt, SP pg ev below (T185.setTop (mkF mi 367 #[.val (.int x0), .val (.int x1), .val (.int x2), .val (.int x3), .val (.int d4), .val (.int d5), .val (.int f6), .val (.int d7), .val (.int d8), .val (.int f9), .val (.int d10), .val (.int d11), .val (.int f12), .val (.ref x_130), .val (.ref x_135), .val vw_140, .val va_145, .val (.ref b148), .val (.ref x_167), .val (.int n19), .val (.int n20), .val (.int n21), .val (.int 1), .unset, .unset] [(.int n23)])) tt → SP pg ev below (s₁.setTop (entryFrame mi #[(.int x0), (.int x1), (.int x2), (.int x3)] maxLocals)) tt := fun tt kk => pre188 tt (by rw [← he_n23]; exact kk)
  have e23 : n23 = Int32.ofNat (9 + cl_130.length) := he_n23.trans (own_n23 ph130_mmM he_n19)
  have pre190 : ∀ tt, SP pg ev below (T185.setTop (mkF mi 374 #[.val (.int x0), .val (.int x1), .val (.int x2), .val (.int x3), .val (.int d4), .val (.int d5), .val (.int f6), .val (.int d7), .val (.int d8), .val (.int f9), .val (.int d10), .val (.int d11), .val (.int f12), .val (.ref x_130), .val (.ref x_135), .val vw_140, .val va_145, .val (.ref b148), .val (.ref x_167), .val (.int n19), .val (.int n20), .val (.int n21), .val (.int 1), .val (.int n23), .unset] [])) tt → SP pg ev below (s₁.setTop (entryFrame mi #[(.int x0), (.int x1), (.int x2), (.int x3)] maxLocals)) tt := fun tt kk => pre189 _ (by
    show SP pg ev below (T185.setTop (mkF mi 367 #[.val (.int x0), .val (.int x1), .val (.int x2), .val (.int x3), .val (.int d4), .val (.int d5), .val (.int f6), .val (.int d7), .val (.int d8), .val (.int f9), .val (.int d10), .val (.int d11), .val (.int f12), .val (.ref x_130), .val (.ref x_135), .val vw_140, .val va_145, .val (.ref b148), .val (.ref x_167), .val (.int n19), .val (.int n20), .val (.int n21), .val (.int 1), .unset, .unset] [(.int n23)])) _
    refine XS.istore X185.here hx rfl (hb hby at_367) rfl (l' := #[.val (.int x0), .val (.int x1), .val (.int x2), .val (.int x3), .val (.int d4), .val (.int d5), .val (.int f6), .val (.int d7), .val (.int d8), .val (.int f9), .val (.int d10), .val (.int d11), .val (.int f12), .val (.ref x_130), .val (.ref x_135), .val vw_140, .val va_145, .val (.ref b148), .val (.ref x_167), .val (.int n19), .val (.int n20), .val (.int n21), .val (.int 1), .val (.int n23), .unset]) rfl ?_
    refine XS.iload X185.here hx rfl (hb hby at_369) rfl ?_
    refine XS.ifNo X185.here hx rfl (hb hby at_371) rfl ((if0 _ _).trans (feq (by decide : ¬ ((1 : Int32) = (0 : Int32)))).1) ?_
    exact kk)
  have O191 : Old Z n0 h185 := (O181.keep Kq185 all0)
  have f192 : LStr Z h185 x_167 t_167 (([(106 : Int32), (97 : Int32), (118 : Int32), (97 : Int32), (58 : Int32), (97 : Int32), (112 : Int32), (112 : Int32), (47 : Int32)] : List Int32) ++ rr) := (sR.keep Kq185 nin0 nin0)
  obtain ⟨T193, h193, L193, X193, e193, N193, Kq193, st193⟩ := sw_pb hw x_167 t_167 (([(106 : Int32), (97 : Int32), (118 : Int32), (97 : Int32), (58 : Int32), (97 : Int32), (112 : Int32), (112 : Int32), (47 : Int32)] : List Int32) ++ rr) d7 d8 f9 n23 (9 + cl_130.length) zc fm (.val (.int x0)) (.val (.int x1)) (.val (.int x2)) (.val (.int x3)) (.val (.int d4)) (.val (.int d5)) (.val (.int f6)) (.val (.int d10)) (.val (.int d11)) (.val (.int f12)) (.val (.ref x_130)) (.val (.ref x_135)) (.val vw_140) (.val va_145) (.val (.ref b148)) (.val (.int n19)) (.val (.int n20)) (.val (.int n21)) (.unset) h185 n0 (X185.more (by decide) (by decide)) hx hby hml hZ hown e185 N185 O191 f192 D0_ D1_ (e23 : n23 = Int32.ofNat (9 + cl_130.length)) ((own_F ph130_mmM ph135_mmB he_rr).1 : ((9 + cl_130.length) < (([(106 : Int32), (97 : Int32), (118 : Int32), (97 : Int32), (58 : Int32), (97 : Int32), (112 : Int32), (112 : Int32), (47 : Int32)] : List Int32) ++ rr).length ∧ (([(106 : Int32), (97 : Int32), (118 : Int32), (97 : Int32), (58 : Int32), (97 : Int32), (112 : Int32), (112 : Int32), (47 : Int32)] : List Int32) ++ rr).getD (9 + cl_130.length) 0 = (47 : Int32)) ∧ ((9 + cl_130.length) + 1 < (([(106 : Int32), (97 : Int32), (118 : Int32), (97 : Int32), (58 : Int32), (97 : Int32), (112 : Int32), (112 : Int32), (47 : Int32)] : List Int32) ++ rr).length ∧ (([(106 : Int32), (97 : Int32), (118 : Int32), (97 : Int32), (58 : Int32), (97 : Int32), (112 : Int32), (112 : Int32), (47 : Int32)] : List Int32) ++ rr).getD ((9 + cl_130.length) + 1) 0 = d7)) ((own_F ph130_mmM ph135_mmB he_rr).2 : ¬ (f9 = (0 : Int32)) → (9 + cl_130.length) + 2 < (([(106 : Int32), (97 : Int32), (118 : Int32), (97 : Int32), (58 : Int32), (97 : Int32), (112 : Int32), (112 : Int32), (47 : Int32)] : List Int32) ++ rr).length ∧ (([(106 : Int32), (97 : Int32), (118 : Int32), (97 : Int32), (58 : Int32), (97 : Int32), (112 : Int32), (112 : Int32), (47 : Int32)] : List Int32) ++ rr).getD ((9 + cl_130.length) + 2) 0 = d8) (hzc : ¬ (zc = (0 : Int32))) (hfm : fm.isRef = true)
  have c194 := CHr.keep Kq193 sf0 C187.1
  have C195 := CHr.trans C187 c194
  obtain ⟨n24, he_n24⟩ : ∃ z, z = ((n23 + (1 : Int32)) + n20) := ⟨_, rfl⟩
  have pre196 : ∀ tt, SP pg ev below (T193.setTop (mkF mi 433 #[.val (.int x0), .val (.int x1), .val (.int x2), .val (.int x3), .val (.int d4), .val (.int d5), .val (.int f6), .val (.int d7), .val (.int d8), .val (.int f9), .val (.int d10), .val (.int d11), .val (.int f12), .val (.ref x_130), .val (.ref x_135), .val vw_140, .val va_145, .val (.ref b148), .val (.ref x_167), .val (.int n19), .val (.int n20), .val (.int n21), .val (.int 1), .val (.int n23), .unset] [(.int ((n23 + (1 : Int32)) + n20))])) tt → SP pg ev below (s₁.setTop (entryFrame mi #[(.int x0), (.int x1), (.int x2), (.int x3)] maxLocals)) tt := fun tt kk => pre190 _ (by
    show SP pg ev below (T185.setTop (mkF mi 374 #[.val (.int x0), .val (.int x1), .val (.int x2), .val (.int x3), .val (.int d4), .val (.int d5), .val (.int f6), .val (.int d7), .val (.int d8), .val (.int f9), .val (.int d10), .val (.int d11), .val (.int f12), .val (.ref x_130), .val (.ref x_135), .val vw_140, .val va_145, .val (.ref b148), .val (.ref x_167), .val (.int n19), .val (.int n20), .val (.int n21), .val (.int 1), .val (.int n23), .unset] [])) _
    refine st193 _ ?_
    refine XS.iload X193.here hx rfl (hb hby at_426) rfl ?_
    refine XS.iconst X193.here hx rfl (hb hby at_428) ?_
    refine XS.iadd X193.here hx rfl (hb hby at_429) rfl ?_
    refine XS.iload X193.here hx rfl (hb hby at_430) rfl ?_
    refine XS.iadd X193.here hx rfl (hb hby at_432) rfl ?_
    exact kk)
  have pre197 : ∀ tt, SP pg ev below (T193.setTop (mkF mi 433 #[.val (.int x0), .val (.int x1), .val (.int x2), .val (.int x3), .val (.int d4), .val (.int d5), .val (.int f6), .val (.int d7), .val (.int d8), .val (.int f9), .val (.int d10), .val (.int d11), .val (.int f12), .val (.ref x_130), .val (.ref x_135), .val vw_140, .val va_145, .val (.ref b148), .val (.ref x_167), .val (.int n19), .val (.int n20), .val (.int n21), .val (.int 1), .val (.int n23), .unset] [(.int n24)])) tt → SP pg ev below (s₁.setTop (entryFrame mi #[(.int x0), (.int x1), (.int x2), (.int x3)] maxLocals)) tt := fun tt kk => pre196 tt (by rw [← he_n24]; exact kk)
  have e24 : n24 = Int32.ofNat (9 + cl_130.length + 1 + cl_135.length) := he_n24.trans (own_n24 ph135_mmB he_n20 e23)
  have pre198 : ∀ tt, SP pg ev below (T193.setTop (mkF mi 435 #[.val (.int x0), .val (.int x1), .val (.int x2), .val (.int x3), .val (.int d4), .val (.int d5), .val (.int f6), .val (.int d7), .val (.int d8), .val (.int f9), .val (.int d10), .val (.int d11), .val (.int f12), .val (.ref x_130), .val (.ref x_135), .val vw_140, .val va_145, .val (.ref b148), .val (.ref x_167), .val (.int n19), .val (.int n20), .val (.int n21), .val (.int 1), .val (.int n23), .val (.int n24)] [])) tt → SP pg ev below (s₁.setTop (entryFrame mi #[(.int x0), (.int x1), (.int x2), (.int x3)] maxLocals)) tt := fun tt kk => pre197 _ (by
    show SP pg ev below (T193.setTop (mkF mi 433 #[.val (.int x0), .val (.int x1), .val (.int x2), .val (.int x3), .val (.int d4), .val (.int d5), .val (.int f6), .val (.int d7), .val (.int d8), .val (.int f9), .val (.int d10), .val (.int d11), .val (.int f12), .val (.ref x_130), .val (.ref x_135), .val vw_140, .val va_145, .val (.ref b148), .val (.ref x_167), .val (.int n19), .val (.int n20), .val (.int n21), .val (.int 1), .val (.int n23), .unset] [(.int n24)])) _
    refine XS.istore X193.here hx rfl (hb hby at_433) rfl (l' := #[.val (.int x0), .val (.int x1), .val (.int x2), .val (.int x3), .val (.int d4), .val (.int d5), .val (.int f6), .val (.int d7), .val (.int d8), .val (.int f9), .val (.int d10), .val (.int d11), .val (.int f12), .val (.ref x_130), .val (.ref x_135), .val vw_140, .val va_145, .val (.ref b148), .val (.ref x_167), .val (.int n19), .val (.int n20), .val (.int n21), .val (.int 1), .val (.int n23), .val (.int n24)]) rfl ?_
    exact kk)
  have O199 : Old Z n0 h193 := (O191.keep Kq193 all0)
  have f200 : LStr Z h193 x_167 t_167 (([(106 : Int32), (97 : Int32), (118 : Int32), (97 : Int32), (58 : Int32), (97 : Int32), (112 : Int32), (112 : Int32), (47 : Int32)] : List Int32) ++ rr) := (f192.keep Kq193 nin0 nin0)
  obtain ⟨T201, h201, L201, X201, e201, N201, Kq201, st201⟩ := sw_pv hw x_167 t_167 (([(106 : Int32), (97 : Int32), (118 : Int32), (97 : Int32), (58 : Int32), (97 : Int32), (112 : Int32), (112 : Int32), (47 : Int32)] : List Int32) ++ rr) d10 d11 f12 n24 (9 + cl_130.length + 1 + cl_135.length) zc fm (.val (.int x0)) (.val (.int x1)) (.val (.int x2)) (.val (.int x3)) (.val (.int d4)) (.val (.int d5)) (.val (.int f6)) (.val (.int d7)) (.val (.int d8)) (.val (.int f9)) (.val (.ref x_130)) (.val (.ref x_135)) (.val vw_140) (.val va_145) (.val (.ref b148)) (.val (.int n19)) (.val (.int n20)) (.val (.int n21)) (.val (.int n23)) h193 n0 (X193.more (by decide) (by decide)) hx hby hml hZ hown e193 N193 O199 f200 D0_ D1_ (e24 : n24 = Int32.ofNat (9 + cl_130.length + 1 + cl_135.length)) ((own_G ph130_mmM ph135_mmB ph140_vvV h12 he_rr).1 : ¬ (f12 = (0 : Int32)) → ((9 + cl_130.length + 1 + cl_135.length) < (([(106 : Int32), (97 : Int32), (118 : Int32), (97 : Int32), (58 : Int32), (97 : Int32), (112 : Int32), (112 : Int32), (47 : Int32)] : List Int32) ++ rr).length ∧ (([(106 : Int32), (97 : Int32), (118 : Int32), (97 : Int32), (58 : Int32), (97 : Int32), (112 : Int32), (112 : Int32), (47 : Int32)] : List Int32) ++ rr).getD (9 + cl_130.length + 1 + cl_135.length) 0 = (33 : Int32)) ∧ ((9 + cl_130.length + 1 + cl_135.length) + 1 < (([(106 : Int32), (97 : Int32), (118 : Int32), (97 : Int32), (58 : Int32), (97 : Int32), (112 : Int32), (112 : Int32), (47 : Int32)] : List Int32) ++ rr).length ∧ (([(106 : Int32), (97 : Int32), (118 : Int32), (97 : Int32), (58 : Int32), (97 : Int32), (112 : Int32), (112 : Int32), (47 : Int32)] : List Int32) ++ rr).getD ((9 + cl_130.length + 1 + cl_135.length) + 1) 0 = d10)) ((own_G ph130_mmM ph135_mmB ph140_vvV h12 he_rr).2 : ¬ (f12 = (0 : Int32)) → ¬ (f12 < (2 : Int32)) → (9 + cl_130.length + 1 + cl_135.length) + 2 < (([(106 : Int32), (97 : Int32), (118 : Int32), (97 : Int32), (58 : Int32), (97 : Int32), (112 : Int32), (112 : Int32), (47 : Int32)] : List Int32) ++ rr).length ∧ (([(106 : Int32), (97 : Int32), (118 : Int32), (97 : Int32), (58 : Int32), (97 : Int32), (112 : Int32), (112 : Int32), (47 : Int32)] : List Int32) ++ rr).getD ((9 + cl_130.length + 1 + cl_135.length) + 2) 0 = d11) (hzc : ¬ (zc = (0 : Int32))) (hfm : fm.isRef = true)
  have c202 := CHr.keep Kq201 sf0 C195.1
  have C203 := CHr.trans C195 c202
  obtain ⟨fs, hr, hrun, hended, hWe⟩ := X201.leaveW hS (show _ ≤ T201.heap.size by rw [e201]; exact (Nat.le_trans hk (Nat.le_trans (Nat.le_trans Kq185.1 Kq193.1) Kq201.1))) (v := some (.int 1)) (fun hq => by rw [Bd.returns] at hq; cases hq)
  refine ⟨_, _, pre198 _ ?_, hrun, hended, _, _, rfl, ?_, ?_, hWe.1, hWe.2.1, hWe.2.2.1, hWe.2.2.2.mono (by decide) (by decide)⟩
  · show SP pg ev below (T193.setTop (mkF mi 435 #[.val (.int x0), .val (.int x1), .val (.int x2), .val (.int x3), .val (.int d4), .val (.int d5), .val (.int f6), .val (.int d7), .val (.int d8), .val (.int f9), .val (.int d10), .val (.int d11), .val (.int f12), .val (.ref x_130), .val (.ref x_135), .val vw_140, .val va_145, .val (.ref b148), .val (.ref x_167), .val (.int n19), .val (.int n20), .val (.int n21), .val (.int 1), .val (.int n23), .val (.int n24)] [])) _
    refine st201 _ ?_
    refine XS.iload X201.here hx rfl (hb hby at_498) rfl ?_
    show SP pg ev below (T201.setTop (mkF mi 500 #[.val (.int x0), .val (.int x1), .val (.int x2), .val (.int x3), .val (.int d4), .val (.int d5), .val (.int f6), .val (.int d7), .val (.int d8), .val (.int f9), .val (.int d10), .val (.int d11), .val (.int f12), .val (.ref x_130), .val (.ref x_135), .val vw_140, .val va_145, .val (.ref b148), .val (.ref x_167), .val (.int n19), .val (.int n20), .val (.int n21), .val (.int 1), .val (.int n23), .val (.int n24)] [(.int 1)])) _
    exact retN X201 hx (t := .boolean) Bd.returns (by simp) (hb hby at_500) hr
  · show Q_law Z x0 x1 x2 x3 zc fm hE n0 _ T201.heap _
    rw [e201]
    exact ⟨rfl, N201⟩
  · show CHr Z ELs sb.vm sb.heap T201.vm T201.heap
    rw [hh, e201]
    exact CHr.trans C203 (CHv.at X201 hZ hEL C203.1)
theorem own_cz {args : Array Value} {s : State} {iz : Int32} (ez : (Term.static c1_ c5_ "Z").eval args s none [] s = some (.int iz)) (h : (Jvm.Cond.not (.eq (.static c1_ c5_ "Z") (.int 0))).before args s = true) : ¬ (iz = (0 : Int32)) := fun q => by
  have h9 := not_v (Cond.before_iff.mp h)
  rw [eq_i ez (Term.int_eval (0 : Int32)) (by rw [q])] at h9
  exact absurd h9 (by simp)
theorem comes_1 {Post : Tables → Env → Array Value → State → Outcome → State → Prop} (hpost : ∀ tb e args s v u, (limb_1_1.after args s (.returned v) u = true ∧ limb_1_2.after args s (.returned v) u = true ∧ True) → ReturnedEndW s (.returned v) u (Jvm.fieldLocs frame_1_writes args s ++ Jvm.arrayLocs frame_1_arrays args s ++ Jvm.staticLocs frame_1_statics s) 72 10624 → Post tb e args s (.returned v) u) :
    ArmFor flags0 classFile x code maxLocals ret World_1 tables_1 room_1 Calls_1 rest_1 Pre_1 Post := by
  intro l hfl _ _ p e ha hcf hk s m args below hf hA hF happ hP
  obtain ⟨hcalls, hrest, hpre⟩ := hP
  obtain ⟨-, -, -, hnamed, -, -, -, hat⟩ := (Spec.applies_iff hf).mp happ
  obtain ⟨hg, hn⟩ := and_e (Cond.before_iff.mp (show (Jvm.Cond.and given_1 narrow_1).before args s = true from hpre))
  obtain ⟨hcnt, hg⟩ := and_e hg
  obtain ⟨ha0, hg⟩ := and_e hg
  obtain ⟨ha1, hg⟩ := and_e hg
  obtain ⟨ha2, hg⟩ := and_e hg
  have ha3 := hg
  obtain ⟨w0, w1, w2, w3, rfl⟩ : ∃ w0 w1 w2 w3 : Value, args = #[w0, w1, w2, w3] := by
    have hs : args.size = 4 := by simpa [Cond.value, given_1] using hcnt
    obtain ⟨L⟩ := args
    match L, hs with
    | [w0, w1, w2, w3], _ => exact ⟨w0, w1, w2, w3, rfl⟩
  have hw := fun d (hd : d ∈ tables_1) => atoms_spec (ws := Cond.code x code maxLocals ret :: tables_1) hat d (List.mem_cons_of_mem _ hd)
  have hfit : Fit s := fun {y c} hc i hi => by
    obtain ⟨ha, rfl⟩ := Array.getElem?_eq_some_iff.mp hc
    have q := List.all_eq_true.mp ((Array.all_eq_true_iff_forall_mem.mp hF) _ (Array.getElem_mem ha)) i (List.mem_range.mpr hi)
    simpa [Array.getElem?_eq_getElem hi] using q
  obtain ⟨hsets, hown0⟩ := atoms_of _ (rest_1_c_eq ▸ (show rest_1_c.before _ s = true from hrest))
  obtain ⟨i0, ei0⟩ := is_v ha0
  obtain rfl : w0 = (.int i0) := Option.some.inj ei0
  obtain ⟨i1, ei1⟩ := is_v ha1
  obtain rfl : w1 = (.int i1) := Option.some.inj ei1
  obtain ⟨i2, ei2⟩ := is_v ha2
  obtain rfl : w2 = (.int i2) := Option.some.inj ei2
  obtain ⟨i3, ei3⟩ := is_v ha3
  obtain rfl : w3 = (.int i3) := Option.some.inj ei3
  have hset := fun i (c : Jvm.Cond) (h : jdkStatics_1[i]? = some c) => hsets c (List.mem_of_getElem? h)
  obtain ⟨iz, ez⟩ := is_v (Cond.before_iff.mp (hset 1 _ rfl))
  have sz := Sta.start ez (Or.inl (hset 0 _ rfl))
  have hz : ¬ (iz = (0 : Int32)) := own_cz ez (hset 2 _ rfl)
  obtain ⟨vf, ef, rf⟩ := isR_v (Cond.before_iff.mp (hset 8 _ rfl))
  have sf := Sta.start ef (Or.inl (hset 7 _ rfl))
  have hCH : CHv s ELs s.vm s.heap := CHv.start (own_EW hw) (fun p hp => hcalls.1 p ((by decide : ∀ p ∈ ELs, p ∈ consts_1) p hp)) (hset 2 _ rfl) (wd18 hw) (wd14 hw)
  obtain ⟨n, o, h1, h2, h3, _, L, rfl, ⟨rfl, N⟩, -, hq⟩ := rm_law l s _ hw tables_1 i0 i1 i2 i3 iz vf s.heap s.heap.size (Old.start s) sz sf hz rf p e ha hcf hk s m _ below hf ((Spec.applies_iff_loose hf).mp happ).1 ⟨rfl, State.Warmed39.refl s, rfl, hCH⟩ trivial
  refine ⟨n, _, h1, h2, h3, hpost _ _ _ _ _ _ ⟨Cond.after_iff.mpr rfl, Cond.after_iff.mpr (eq_i res_at (Term.int_eval (1)) rfl), trivial⟩ ⟨hq.1, hq.2.1, hq.2.2.1, (hq.2.2.2.sift fun y hy => Or.inr (N y hy)).mono (by decide) (by decide)⟩⟩
theorem main_1_1 : Claimed_1_1 := comes_1 fun _ _ _ _ _ _ h hF => ⟨h.1, hF⟩
theorem main_1_2 : Claimed_1_2 := comes_1 fun _ _ _ _ _ _ h hF => ⟨h.2.1, hF⟩

end Jvm.Pilot.@@N@@
namespace Jvm.Pilot.@@N@@
open Jvm Jvm.ClassFile Sem Op Lib Jvm.Free Jvm.Stand Jvm.Pilot.@@N@@.Jvm.D
/-! MADE BY PROGRAM (witnessworld.py) out of the Statement's table words and the real class files: 28 classes; the members and pool entries that the words name. The judged class is class 1, her method 3. -/
namespace start1
open Jvm.ClassFile
def u (s : String) : CpInfo := .utf8 (stringToUtf16 s)
/-- a pool by its gaps: so many unusable entries, then the entry; so many at the end -/
def gap : Nat → List CpInfo → List CpInfo
  | 0, r => r
  | n + 1, r => .unusable :: gap n r
def poolList (es : List (Nat × CpInfo)) (last : Nat) : List CpInfo := es.foldr (fun e r => gap e.1 (e.2 :: r)) (gap last [])
def pool (es : List (Nat × CpInfo)) (last : Nat) : Array CpInfo := ⟨poolList es last⟩
def fileOf (pool : Array CpInfo) (this : Nat) (attrs : Array Attribute := #[]) (ms : Array MethodInfo := #[]) (fl : Nat := 33) (sup : Nat := 0) (ifs : Array Nat := #[]) (fds : Array FieldInfo := #[]) : ClassFile where
  minorVersion := 0
  majorVersion := 65
  constantPool := pool
  accessFlags := fl
  thisClass := this
  superClass := sup
  interfaces := ifs
  fields := fds
  methods := ms
  attributes := attrs
def plain (name : String) (sup : Option ClassId) : Class where
  name := name
  kind := .ordinary
  loader := none
  accessFlags := 33
  super := sup
  interfaces := #[]
  cf := none
  fields := #[]
  methods := #[]
  instanceTypes := #[]
  staticTypes := #[]
  resolved := #[]
  callSites := []
  init := .initialized
  statics := none
  mirror := none

def pool0 : Array CpInfo := pool [(5, u "<init>"), (0, u "()V"), (1, .class_ 10), (1, u "java/lang/Object"), (85, u "clone"), (0, u "()Ljava/lang/Object;")] 26

def k0c0 : Code := { maxStack := 0, maxLocals := 1, code := object_method_1_code, exceptionTable := #[], attributes := #[] }
def k0m0 : Method := { name := "<init>", desc := "()V", sig := { parameters := [], returnType := none }, accessFlags := 1, code := some k0c0 }
def k0m1 : Method := { name := "clone", desc := "()Ljava/lang/Object;", sig := { parameters := [], returnType := some (.object "java/lang/Object") }, accessFlags := 260, code := none }
/-- java/lang/Object -/
def k0 : Class := { plain "java/lang/Object" none with
  accessFlags := 33
  interfaces := #[]
  cf := some (fileOf pool0 8 #[] #[{ accessFlags := 1, nameIndex := 5, descriptorIndex := 6, attributes := #[] }, { accessFlags := 260, nameIndex := 96, descriptorIndex := 97, attributes := #[] }] 33 0 #[] #[])
  fields := #[]
  methods := #[k0m0, k0m1]
  instanceTypes := #[]
  staticTypes := #[]
  resolved := Array.replicate 124 none
  statics := none }

def pool1 : Array CpInfo := pool [(2, .class_ 4), (1, u "java/lang/Object"), (0, u "<init>"), (0, u "()V"), (0, .methodref 8 9), (0, .class_ 10), (0, .nameAndType 11 12), (0, u "java/lang/String"), (0, u "charAt"), (0, u "(I)C"), (0, .methodref 14 15), (0, .class_ 16), (0, .nameAndType 17 12), (0, u "com/example/beanloft/beanloft/naming/GlobalNameInApplicationPinLaw"), (0, u "seg"), (0, .methodref 8 19), (0, .nameAndType 5 20), (0, u "([C)V"), (0, .methodref 8 22), (0, .nameAndType 23 24), (0, u "valueOf"), (0, u "(C)Ljava/lang/String;"), (0, .class_ 26), (0, u "com/example/beanloft/beanloft/naming/GlobalName"), (0, .methodref 25 28), (0, .nameAndType 5 29), (0, u "(Ljava/lang/String;Ljava/lang/String;Ljava/lang/String;Ljava/lang/String;)V"), (0, .methodref 25 31), (0, .nameAndType 32 33), (0, u "inApplication"), (0, u "()Ljava/lang/String;"), (0, .methodref 8 35), (0, .nameAndType 36 37), (0, u "length"), (0, u "()I"), (0, .methodref 14 39), (0, .nameAndType 40 41), (0, u "prefixOk"), (0, u "(Ljava/lang/String;)Z"), (3, u "law"), (0, u "(IIII)Z")] 2

def k1m0 : Method := { name := "<init>", desc := "()V", sig := { parameters := [], returnType := none }, accessFlags := 1, code := none }
def k1c1 : Code := { maxStack := 2, maxLocals := 2, code := method_2_code, exceptionTable := #[], attributes := #[] }
def k1m1 : Method := { name := "seg", desc := "(I)C", sig := { parameters := [.int], returnType := some .char }, accessFlags := 10, code := some k1c1 }
def k1c2 : Code := { maxStack := 2, maxLocals := 1, code := method_3_code, exceptionTable := #[], attributes := #[] }
def k1m2 : Method := { name := "prefixOk", desc := "(Ljava/lang/String;)Z", sig := { parameters := [(.object "java/lang/String")], returnType := some .boolean }, accessFlags := 10, code := some k1c2 }
def k1c3 : Code := { maxStack := 6, maxLocals := 25, code := code, exceptionTable := #[], attributes := #[] }
def k1m3 : Method := { name := "law", desc := "(IIII)Z", sig := { parameters := [.int, .int, .int, .int], returnType := some .boolean }, accessFlags := 9, code := some k1c3 }
/-- com/example/beanloft/beanloft/naming/GlobalNameInApplicationPinLaw -/
def k1 : Class := { plain "com/example/beanloft/beanloft/naming/GlobalNameInApplicationPinLaw" (some 0) with
  accessFlags := 49
  interfaces := #[]
  cf := some (fileOf pool1 14 #[] #[{ accessFlags := 1, nameIndex := 5, descriptorIndex := 6, attributes := #[] }, { accessFlags := 10, nameIndex := 17, descriptorIndex := 12, attributes := #[] }, { accessFlags := 10, nameIndex := 40, descriptorIndex := 41, attributes := #[] }, { accessFlags := 9, nameIndex := 45, descriptorIndex := 46, attributes := #[] }] 49 2 #[] #[])
  fields := #[]
  methods := #[k1m0, k1m1, k1m2, k1m3]
  instanceTypes := #[]
  staticTypes := #[]
  resolved := Array.replicate 49 none
  statics := none }

def pool2 : Array CpInfo := pool [(1, .class_ 2), (0, u "java/io/Serializable"), (0, .class_ 4), (0, u "java/lang/Object")] 2

/-- java/io/Serializable -/
def k2 : Class := { plain "java/io/Serializable" (some 0) with
  accessFlags := 1537
  interfaces := #[]
  cf := some (fileOf pool2 1 #[] #[] 1537 3 #[] #[])
  fields := #[]
  methods := #[]
  instanceTypes := #[]
  staticTypes := #[]
  resolved := Array.replicate 7 none
  statics := none }

def pool3 : Array CpInfo := pool [(1, .class_ 2), (0, u "java/lang/Comparable"), (0, .class_ 4), (0, u "java/lang/Object")] 7

/-- java/lang/Comparable -/
def k3 : Class := { plain "java/lang/Comparable" (some 0) with
  accessFlags := 1537
  interfaces := #[]
  cf := some (fileOf pool3 1 #[] #[] 1537 3 #[] #[])
  fields := #[]
  methods := #[]
  instanceTypes := #[]
  staticTypes := #[]
  resolved := Array.replicate 12 none
  statics := none }

def pool4 : Array CpInfo := pool [(2, .class_ 4), (1, u "java/lang/CharSequence"), (42, .class_ 48), (0, u "java/lang/CharSequence$1CodePointIterator"), (10, .class_ 60), (0, u "java/lang/CharSequence$1CharIterator"), (5, .class_ 67), (0, u "java/lang/Object"), (10, u "toString"), (0, u "()Ljava/lang/String;")] 51

def k4m0 : Method := { name := "toString", desc := "()Ljava/lang/String;", sig := { parameters := [], returnType := some (.object "java/lang/String") }, accessFlags := 1025, code := none }
/-- java/lang/CharSequence -/
def k4 : Class := { plain "java/lang/CharSequence" (some 0) with
  accessFlags := 1537
  interfaces := #[]
  cf := some (fileOf pool4 2 #[.nestMembers #[47, 59]] #[{ accessFlags := 1025, nameIndex := 78, descriptorIndex := 79, attributes := #[] }] 1537 66 #[] #[])
  fields := #[]
  methods := #[k4m0]
  instanceTypes := #[]
  staticTypes := #[]
  resolved := Array.replicate 131 none
  statics := none }

def pool5 : Array CpInfo := pool [(1, .class_ 2), (0, u "java/lang/constant/Constable"), (0, .class_ 4), (0, u "java/lang/Object")] 6

/-- java/lang/constant/Constable -/
def k5 : Class := { plain "java/lang/constant/Constable" (some 0) with
  accessFlags := 1537
  interfaces := #[]
  cf := some (fileOf pool5 1 #[] #[] 1537 3 #[] #[])
  fields := #[]
  methods := #[]
  instanceTypes := #[]
  staticTypes := #[]
  resolved := Array.replicate 11 none
  statics := none }

def pool6 : Array CpInfo := pool [(1, .class_ 2), (0, u "java/lang/constant/ConstantDesc"), (0, .class_ 4), (0, u "java/lang/Object")] 32

/-- java/lang/constant/ConstantDesc -/
def k6 : Class := { plain "java/lang/constant/ConstantDesc" (some 0) with
  accessFlags := 1537
  interfaces := #[]
  cf := some (fileOf pool6 1 #[] #[] 1537 3 #[] #[])
  fields := #[]
  methods := #[]
  instanceTypes := #[]
  staticTypes := #[]
  resolved := Array.replicate 37 none
  statics := none }

def pool7 : Array CpInfo := pool [(1, .methodref 2 3), (0, .class_ 4), (0, .nameAndType 5 6), (0, u "java/lang/Object"), (0, u "<init>"), (0, u "()V"), (2, .fieldref 10 11), (0, .class_ 12), (0, .nameAndType 13 14), (0, u "java/lang/String"), (0, u "value"), (0, u "[B"), (0, .fieldref 10 16), (0, .nameAndType 17 18), (0, u "coder"), (0, u "B"), (2, u "hash"), (0, u "I"), (2, u "hashIsZero"), (0, u "Z"), (0, .methodref 10 28), (0, .nameAndType 5 29), (0, u "([CIILjava/lang/Void;)V"), (8, .fieldref 10 39), (0, .nameAndType 40 26), (0, u "COMPACT_STRINGS"), (1, .class_ 44), (1, u "java/lang/StringUTF16"), (0, u "compress"), (1, .methodref 42 48), (0, .nameAndType 49 50), (0, u "coderFromArrayLen"), (0, u "([BI)B"), (2, u "toBytes"), (0, .methodref 55 56), (0, .class_ 57), (0, .nameAndType 58 59), (0, u "java/util/Arrays"), (0, u "copyOfRange"), (0, u "([BII)[B"), (47, .class_ 109), (1, u "java/lang/StringLatin1"), (32, u "()Z"), (34, .methodref 42 178), (0, .nameAndType 45 179), (0, u "([CII)[B"), (13, .class_ 195), (1, u "java/lang/System"), (13, .methodref 10 210), (0, .nameAndType 5 211), (0, u "([BB)V"), (0, .methodref 193 213), (0, .nameAndType 214 215), (0, u "arraycopy"), (0, u "(Ljava/lang/Object;ILjava/lang/Object;II)V"), (118, u "()I"), (0, .methodref 10 336), (0, .nameAndType 17 337), (0, u "()B"), (2, u "()[B"), (22, u "([BI)C"), (5, u "(C)Z"), (21, u "(II)V"), (35, u "(I)C"), (34, .nameAndType 463 464), (0, u "toString"), (0, u "()Ljava/lang/String;"), (24, .methodref 10 490), (0, .nameAndType 5 491), (0, u "(Ljava/lang/AbstractStringBuilder;Ljava/lang/Void;)V"), (0, .methodref 10 493), (0, .nameAndType 494 142), (0, u "isLatin1"), (0, .methodref 107 496), (0, .nameAndType 497 363), (0, u "charAt"), (3, u "checkIndex"), (4, .nameAndType 507 334), (0, u "length"), (24, u "getBytes"), (15, u "(Ljava/lang/CharSequence;)Z"), (0, .methodref 550 506), (0, .class_ 551), (0, u "java/lang/AbstractStringBuilder"), (0, .methodref 550 553), (0, .nameAndType 554 340), (0, u "getValue"), (20, .class_ 576), (0, u "java/lang/CharSequence"), (12, u "([B[B)I"), (9, u "CASE_INSENSITIVE_ORDER"), (0, u "Ljava/util/Comparator;"), (34, u "indexOf"), (11, .methodref 107 648), (0, .nameAndType 635 589), (43, u "isEmpty"), (17, .interfaceMethodref 575 462), (0, .methodref 10 712), (0, .nameAndType 635 713), (0, u "(Ljava/lang/String;)I"), (68, u "valueOf"), (0, u "(C)Ljava/lang/String;"), (37, u "([BIB)V"), (188, u "([C)V"), (4, .methodref 107 1016), (0, .nameAndType 1017 369), (0, u "canEncode"), (0, .methodref 107 1019), (0, .nameAndType 53 1020), (0, u "(C)[B"), (26, .methodref 550 493), (5, .fieldref 1054 1055), (0, .class_ 1056), (0, .nameAndType 1057 1058), (0, u "jdk/internal/util/Preconditions"), (0, u "SIOOBE_FORMATTER"), (0, u "Ljava/util/function/BiFunction;"), (0, .methodref 1054 1060), (0, .nameAndType 501 1061), (0, u "(IILjava/util/function/BiFunction;)I"), (39, u "serialPersistentFields"), (0, u "[Ljava/io/ObjectStreamField;"), (0, .class_ 1104), (0, u "java/lang/String$CaseInsensitiveComparator"), (1, .class_ 1107), (0, u "java/io/Serializable"), (0, .class_ 1109), (0, u "java/lang/Comparable"), (0, .class_ 1111), (0, u "java/lang/constant/Constable"), (0, .class_ 1113), (0, u "java/lang/constant/ConstantDesc"), (2, u "serialVersionUID"), (0, u "J"), (3, u "REPL"), (0, u "C"), (2, u "LATIN1"), (1, u "UTF16"), (105, u "(Ljava/lang/StringBuilder;)V"), (57, u "contains")] 159

def k7m0 : Method := { name := "<init>", desc := "()V", sig := { parameters := [], returnType := none }, accessFlags := 1, code := none }
def k7c1 : Code := { maxStack := 5, maxLocals := 2, code := jdk_42_method_3_code, exceptionTable := #[], attributes := #[] }
def k7m1 : Method := { name := "<init>", desc := "([C)V", sig := { parameters := [(.array .char)], returnType := none }, accessFlags := 1, code := some k7c1 }
def k7c2 : Code := { maxStack := 3, maxLocals := 2, code := jdk_42_method_53_code, exceptionTable := #[], attributes := #[] }
def k7m2 : Method := { name := "<init>", desc := "(Ljava/lang/StringBuilder;)V", sig := { parameters := [(.object "java/lang/StringBuilder")], returnType := none }, accessFlags := 1, code := some k7c2 }
def k7c3 : Code := { maxStack := 2, maxLocals := 1, code := jdk_42_method_54_code, exceptionTable := #[], attributes := #[] }
def k7m3 : Method := { name := "length", desc := "()I", sig := { parameters := [], returnType := some .int }, accessFlags := 1, code := some k7c3 }
def k7c4 : Code := { maxStack := 1, maxLocals := 1, code := jdk_42_method_55_code, exceptionTable := #[], attributes := #[] }
def k7m4 : Method := { name := "isEmpty", desc := "()Z", sig := { parameters := [], returnType := some .boolean }, accessFlags := 1, code := some k7c4 }
def k7c5 : Code := { maxStack := 2, maxLocals := 2, code := jdk_42_method_56_code, exceptionTable := #[], attributes := #[] }
def k7m5 : Method := { name := "charAt", desc := "(I)C", sig := { parameters := [.int], returnType := some .char }, accessFlags := 1, code := some k7c5 }
def k7c6 : Code := { maxStack := 2, maxLocals := 3, code := jdk_42_method_84_code, exceptionTable := #[], attributes := #[] }
def k7m6 : Method := { name := "indexOf", desc := "(Ljava/lang/String;)I", sig := { parameters := [(.object "java/lang/String")], returnType := some .int }, accessFlags := 1, code := some k7c6 }
def k7c7 : Code := { maxStack := 2, maxLocals := 2, code := jdk_42_method_97_code, exceptionTable := #[], attributes := #[] }
def k7m7 : Method := { name := "contains", desc := "(Ljava/lang/CharSequence;)Z", sig := { parameters := [(.object "java/lang/CharSequence")], returnType := some .boolean }, accessFlags := 1, code := some k7c7 }
def k7c8 : Code := { maxStack := 1, maxLocals := 1, code := jdk_42_method_126_code, exceptionTable := #[], attributes := #[] }
def k7m8 : Method := { name := "toString", desc := "()Ljava/lang/String;", sig := { parameters := [], returnType := some (.object "java/lang/String") }, accessFlags := 1, code := some k7c8 }
def k7c9 : Code := { maxStack := 4, maxLocals := 1, code := jdk_42_method_139_code, exceptionTable := #[], attributes := #[] }
def k7m9 : Method := { name := "valueOf", desc := "(C)Ljava/lang/String;", sig := { parameters := [.char], returnType := some (.object "java/lang/String") }, accessFlags := 9, code := some k7c9 }
def k7c10 : Code := { maxStack := 5, maxLocals := 4, code := jdk_42_method_147_code, exceptionTable := #[], attributes := #[] }
def k7m10 : Method := { name := "getBytes", desc := "([BIB)V", sig := { parameters := [(.array .byte), .int, .byte], returnType := none }, accessFlags := 0, code := some k7c10 }
def k7c11 : Code := { maxStack := 4, maxLocals := 6, code := jdk_42_method_149_code, exceptionTable := #[], attributes := #[] }
def k7m11 : Method := { name := "<init>", desc := "([CIILjava/lang/Void;)V", sig := { parameters := [(.array .char), .int, .int, (.object "java/lang/Void")], returnType := none }, accessFlags := 2, code := some k7c11 }
def k7c12 : Code := { maxStack := 5, maxLocals := 5, code := jdk_42_method_150_code, exceptionTable := #[], attributes := #[] }
def k7m12 : Method := { name := "<init>", desc := "(Ljava/lang/AbstractStringBuilder;Ljava/lang/Void;)V", sig := { parameters := [(.object "java/lang/AbstractStringBuilder"), (.object "java/lang/Void")], returnType := none }, accessFlags := 0, code := some k7c12 }
def k7c13 : Code := { maxStack := 2, maxLocals := 3, code := jdk_42_method_151_code, exceptionTable := #[], attributes := #[] }
def k7m13 : Method := { name := "<init>", desc := "([BB)V", sig := { parameters := [(.array .byte), .byte], returnType := none }, accessFlags := 0, code := some k7c13 }
def k7c14 : Code := { maxStack := 1, maxLocals := 1, code := jdk_42_method_152_code, exceptionTable := #[], attributes := #[] }
def k7m14 : Method := { name := "coder", desc := "()B", sig := { parameters := [], returnType := some .byte }, accessFlags := 0, code := some k7c14 }
def k7c15 : Code := { maxStack := 1, maxLocals := 1, code := jdk_42_method_154_code, exceptionTable := #[], attributes := #[] }
def k7m15 : Method := { name := "isLatin1", desc := "()Z", sig := { parameters := [], returnType := some .boolean }, accessFlags := 0, code := some k7c15 }
def k7c16 : Code := { maxStack := 3, maxLocals := 2, code := jdk_42_method_155_code, exceptionTable := #[], attributes := #[] }
def k7m16 : Method := { name := "checkIndex", desc := "(II)V", sig := { parameters := [.int, .int], returnType := none }, accessFlags := 8, code := some k7c16 }
/-- java/lang/String -/
def k7 : Class := { plain "java/lang/String" (some 0) with
  accessFlags := 49
  interfaces := #[2, 3, 4, 5, 6]
  cf := some (fileOf pool7 10 #[.nestMembers #[1103]] #[{ accessFlags := 1, nameIndex := 5, descriptorIndex := 6, attributes := #[] }, { accessFlags := 1, nameIndex := 5, descriptorIndex := 1010, attributes := #[] }, { accessFlags := 1, nameIndex := 5, descriptorIndex := 1233, attributes := #[] }, { accessFlags := 1, nameIndex := 507, descriptorIndex := 334, attributes := #[] }, { accessFlags := 1, nameIndex := 692, descriptorIndex := 142, attributes := #[] }, { accessFlags := 1, nameIndex := 497, descriptorIndex := 427, attributes := #[] }, { accessFlags := 1, nameIndex := 635, descriptorIndex := 713, attributes := #[] }, { accessFlags := 1, nameIndex := 1291, descriptorIndex := 548, attributes := #[] }, { accessFlags := 1, nameIndex := 463, descriptorIndex := 464, attributes := #[] }, { accessFlags := 9, nameIndex := 782, descriptorIndex := 783, attributes := #[] }, { accessFlags := 0, nameIndex := 532, descriptorIndex := 821, attributes := #[] }, { accessFlags := 2, nameIndex := 5, descriptorIndex := 29, attributes := #[] }, { accessFlags := 0, nameIndex := 5, descriptorIndex := 491, attributes := #[] }, { accessFlags := 0, nameIndex := 5, descriptorIndex := 211, attributes := #[] }, { accessFlags := 0, nameIndex := 17, descriptorIndex := 337, attributes := #[] }, { accessFlags := 0, nameIndex := 494, descriptorIndex := 142, attributes := #[] }, { accessFlags := 8, nameIndex := 501, descriptorIndex := 391, attributes := #[] }] 49 2 #[1106, 1108, 575, 1110, 1112] #[{ accessFlags := 18, nameIndex := 13, descriptorIndex := 14, attributes := #[] }, { accessFlags := 18, nameIndex := 17, descriptorIndex := 18, attributes := #[] }, { accessFlags := 2, nameIndex := 21, descriptorIndex := 22, attributes := #[] }, { accessFlags := 2, nameIndex := 25, descriptorIndex := 26, attributes := #[] }, { accessFlags := 26, nameIndex := 1116, descriptorIndex := 1117, attributes := #[] }, { accessFlags := 24, nameIndex := 40, descriptorIndex := 26, attributes := #[] }, { accessFlags := 26, nameIndex := 1101, descriptorIndex := 1102, attributes := #[] }, { accessFlags := 26, nameIndex := 1121, descriptorIndex := 1122, attributes := #[] }, { accessFlags := 25, nameIndex := 599, descriptorIndex := 600, attributes := #[] }, { accessFlags := 24, nameIndex := 1125, descriptorIndex := 18, attributes := #[] }, { accessFlags := 24, nameIndex := 1127, descriptorIndex := 18, attributes := #[] }])
  fields := #[{ name := "value", type := (.array .byte), accessFlags := 18, slot := 0, constantValue := 0 }, { name := "coder", type := .byte, accessFlags := 18, slot := 1, constantValue := 0 }, { name := "hash", type := .int, accessFlags := 2, slot := 2, constantValue := 0 }, { name := "hashIsZero", type := .boolean, accessFlags := 2, slot := 3, constantValue := 0 }, { name := "serialVersionUID", type := .long, accessFlags := 26, slot := 0, constantValue := 0 }, { name := "COMPACT_STRINGS", type := .boolean, accessFlags := 24, slot := 1, constantValue := 0 }, { name := "serialPersistentFields", type := (.array (.object "java/io/ObjectStreamField")), accessFlags := 26, slot := 2, constantValue := 0 }, { name := "REPL", type := .char, accessFlags := 26, slot := 3, constantValue := 0 }, { name := "CASE_INSENSITIVE_ORDER", type := (.object "java/util/Comparator"), accessFlags := 25, slot := 4, constantValue := 0 }, { name := "LATIN1", type := .byte, accessFlags := 24, slot := 5, constantValue := 0 }, { name := "UTF16", type := .byte, accessFlags := 24, slot := 6, constantValue := 0 }]
  methods := #[k7m0, k7m1, k7m2, k7m3, k7m4, k7m5, k7m6, k7m7, k7m8, k7m9, k7m10, k7m11, k7m12, k7m13, k7m14, k7m15, k7m16]
  instanceTypes := #[(.array .byte), .byte, .int, .boolean]
  staticTypes := #[.long, .boolean, (.array (.object "java/io/ObjectStreamField")), .char, (.object "java/util/Comparator"), .byte, .byte]
  resolved := Array.replicate 1451 none
  statics := some 0 }

def pool8 : Array CpInfo := pool [(1, .class_ 2), (0, u "java/lang/String"), (1, .class_ 6), (1, u "java/lang/Object"), (0, u "<init>"), (0, u "()V"), (0, .methodref 1 10), (0, .nameAndType 11 12), (0, u "checkIndex"), (0, u "(II)V"), (1, .class_ 16), (1, u "java/lang/StringLatin1"), (36, u "([BI)C"), (36, u "canEncode"), (8, .methodref 14 100), (0, .nameAndType 101 102), (0, u "indexOf"), (0, u "([BI[BII)I"), (2, u "(C)Z"), (15, u "$assertionsDisabled"), (0, u "Z"), (98, .class_ 223), (1, u "java/lang/StringLatin1$LinesSpliterator"), (28, u "charAt"), (34, u "([B[B)I"), (92, u "toBytes"), (1, u "(C)[B"), (7, .class_ 391), (0, u "java/lang/StringLatin1$CharsSpliterator")] 3

def k8m0 : Method := { name := "<init>", desc := "()V", sig := { parameters := [], returnType := none }, accessFlags := 0, code := none }
def k8c1 : Code := { maxStack := 2, maxLocals := 2, code := jdk_43_method_2_code, exceptionTable := #[], attributes := #[] }
def k8m1 : Method := { name := "charAt", desc := "([BI)C", sig := { parameters := [(.array .byte), .int], returnType := some .char }, accessFlags := 9, code := some k8c1 }
def k8c2 : Code := { maxStack := 2, maxLocals := 1, code := jdk_43_method_3_code, exceptionTable := #[], attributes := #[] }
def k8m2 : Method := { name := "canEncode", desc := "(C)Z", sig := { parameters := [.char], returnType := some .boolean }, accessFlags := 9, code := some k8c2 }
def k8c3 : Code := { maxStack := 5, maxLocals := 2, code := jdk_43_method_24_code, exceptionTable := #[], attributes := #[] }
def k8m3 : Method := { name := "indexOf", desc := "([B[B)I", sig := { parameters := [(.array .byte), (.array .byte)], returnType := some .int }, accessFlags := 9, code := some k8c3 }
def k8c4 : Code := { maxStack := 3, maxLocals := 11, code := jdk_43_method_25_code, exceptionTable := #[], attributes := #[] }
def k8m4 : Method := { name := "indexOf", desc := "([BI[BII)I", sig := { parameters := [(.array .byte), .int, (.array .byte), .int, .int], returnType := some .int }, accessFlags := 9, code := some k8c4 }
def k8c5 : Code := { maxStack := 4, maxLocals := 1, code := jdk_43_method_46_code, exceptionTable := #[], attributes := #[] }
def k8m5 : Method := { name := "toBytes", desc := "(C)[B", sig := { parameters := [.char], returnType := some (.array .byte) }, accessFlags := 9, code := some k8c5 }
/-- java/lang/StringLatin1 -/
def k8 : Class := { plain "java/lang/StringLatin1" (some 0) with
  accessFlags := 48
  interfaces := #[]
  cf := some (fileOf pool8 14 #[.nestMembers #[390, 221]] #[{ accessFlags := 0, nameIndex := 7, descriptorIndex := 8, attributes := #[] }, { accessFlags := 9, nameIndex := 252, descriptorIndex := 53, attributes := #[] }, { accessFlags := 9, nameIndex := 90, descriptorIndex := 105, attributes := #[] }, { accessFlags := 9, nameIndex := 101, descriptorIndex := 287, attributes := #[] }, { accessFlags := 9, nameIndex := 101, descriptorIndex := 102, attributes := #[] }, { accessFlags := 9, nameIndex := 380, descriptorIndex := 382, attributes := #[] }] 48 4 #[] #[{ accessFlags := 4120, nameIndex := 121, descriptorIndex := 122, attributes := #[] }])
  fields := #[{ name := "$assertionsDisabled", type := .boolean, accessFlags := 4120, slot := 0, constantValue := 0 }]
  methods := #[k8m0, k8m1, k8m2, k8m3, k8m4, k8m5]
  instanceTypes := #[]
  staticTypes := #[.boolean]
  resolved := Array.replicate 395 none
  statics := none }

def pool9 : Array CpInfo := pool [(1, .methodref 2 3), (0, .class_ 4), (0, .nameAndType 5 6), (0, u "java/lang/Object"), (0, u "<init>"), (0, u "()V"), (0, .class_ 8), (0, u "java/lang/Record")] 13

def k9c0 : Code := { maxStack := 1, maxLocals := 1, code := jdk_30_method_1_code, exceptionTable := #[], attributes := #[] }
def k9m0 : Method := { name := "<init>", desc := "()V", sig := { parameters := [], returnType := none }, accessFlags := 4, code := some k9c0 }
/-- java/lang/Record -/
def k9 : Class := { plain "java/lang/Record" (some 0) with
  accessFlags := 1057
  interfaces := #[]
  cf := some (fileOf pool9 7 #[] #[{ accessFlags := 4, nameIndex := 5, descriptorIndex := 6, attributes := #[] }] 1057 2 #[] #[])
  fields := #[]
  methods := #[k9m0]
  instanceTypes := #[]
  staticTypes := #[]
  resolved := Array.replicate 22 none
  statics := none }

def pool10 : Array CpInfo := pool [(1, .methodref 2 3), (0, .class_ 4), (0, .nameAndType 5 6), (0, u "java/lang/Record"), (0, u "<init>"), (0, u "()V"), (0, .string 8), (0, u "moduleName"), (0, .methodref 10 11), (0, .class_ 12), (0, .nameAndType 13 14), (0, u "java/util/Objects"), (0, u "requireNonNull"), (0, u "(Ljava/lang/Object;Ljava/lang/String;)Ljava/lang/Object;"), (0, .string 16), (0, u "beanName"), (0, .string 18), (0, u "application name"), (0, .methodref 20 21), (0, .class_ 22), (0, .nameAndType 23 24), (0, u "com/example/beanloft/beanloft/naming/GlobalName"), (0, u "checkSegment"), (0, u "(Ljava/lang/String;Ljava/lang/String;Ljava/lang/String;Ljava/lang/String;)V"), (0, .string 26), (0, u "module name"), (0, .string 28), (0, u "bean name"), (0, .string 30), (0, u "view name"), (0, .fieldref 20 32), (0, .nameAndType 33 34), (0, u "appName"), (0, u "Ljava/lang/String;"), (0, .fieldref 20 36), (0, .nameAndType 8 34), (0, .fieldref 20 38), (0, .nameAndType 16 34), (0, .fieldref 20 40), (0, .nameAndType 41 34), (0, u "viewName"), (5, .class_ 49), (1, u "java/lang/String"), (20, .class_ 71), (0, u "java/lang/StringBuilder"), (0, .methodref 70 3), (2, .methodref 70 76), (0, .nameAndType 77 78), (0, u "append"), (0, u "(Ljava/lang/String;)Ljava/lang/StringBuilder;"), (5, .methodref 70 85), (0, .nameAndType 86 87), (0, u "toString"), (0, u "()Ljava/lang/String;"), (15, .string 104), (0, u "java:app/"), (0, .string 106), (0, u "/"), (0, .methodref 20 108), (0, .nameAndType 109 87), (0, u "viewSuffix"), (8, .string 119), (0, u ""), (0, .string 121), (0, u "!"), (0, .methodref 47 123), (0, .nameAndType 124 125), (0, u "isEmpty"), (0, u "()Z"), (0, .methodref 47 127), (0, .nameAndType 128 129), (0, u "contains"), (0, u "(Ljava/lang/CharSequence;)Z"), (25, u "inApplication")] 26

def k10c0 : Code := { maxStack := 4, maxLocals := 5, code := prog_9_method_1_code, exceptionTable := #[], attributes := #[] }
def k10m0 : Method := { name := "<init>", desc := "(Ljava/lang/String;Ljava/lang/String;Ljava/lang/String;Ljava/lang/String;)V", sig := { parameters := [(.object "java/lang/String"), (.object "java/lang/String"), (.object "java/lang/String"), (.object "java/lang/String")], returnType := none }, accessFlags := 1, code := some k10c0 }
def k10c1 : Code := { maxStack := 2, maxLocals := 1, code := prog_9_method_5_code, exceptionTable := #[], attributes := #[] }
def k10m1 : Method := { name := "inApplication", desc := "()Ljava/lang/String;", sig := { parameters := [], returnType := some (.object "java/lang/String") }, accessFlags := 1, code := some k10c1 }
def k10c2 : Code := { maxStack := 2, maxLocals := 1, code := prog_9_method_8_code, exceptionTable := #[], attributes := #[] }
def k10m2 : Method := { name := "viewSuffix", desc := "()Ljava/lang/String;", sig := { parameters := [], returnType := some (.object "java/lang/String") }, accessFlags := 2, code := some k10c2 }
def k10c3 : Code := { maxStack := 7, maxLocals := 4, code := prog_9_method_9_code, exceptionTable := #[], attributes := #[] }
def k10m3 : Method := { name := "checkSegment", desc := "(Ljava/lang/String;Ljava/lang/String;Ljava/lang/String;Ljava/lang/String;)V", sig := { parameters := [(.object "java/lang/String"), (.object "java/lang/String"), (.object "java/lang/String"), (.object "java/lang/String")], returnType := none }, accessFlags := 10, code := some k10c3 }
/-- com/example/beanloft/beanloft/naming/GlobalName -/
def k10 : Class := { plain "com/example/beanloft/beanloft/naming/GlobalName" (some 9) with
  accessFlags := 49
  interfaces := #[]
  cf := some (fileOf pool10 20 #[] #[{ accessFlags := 1, nameIndex := 5, descriptorIndex := 24, attributes := #[] }, { accessFlags := 1, nameIndex := 155, descriptorIndex := 87, attributes := #[] }, { accessFlags := 2, nameIndex := 109, descriptorIndex := 87, attributes := #[] }, { accessFlags := 10, nameIndex := 23, descriptorIndex := 24, attributes := #[] }] 49 2 #[] #[{ accessFlags := 18, nameIndex := 33, descriptorIndex := 34, attributes := #[] }, { accessFlags := 18, nameIndex := 8, descriptorIndex := 34, attributes := #[] }, { accessFlags := 18, nameIndex := 16, descriptorIndex := 34, attributes := #[] }, { accessFlags := 18, nameIndex := 41, descriptorIndex := 34, attributes := #[] }])
  fields := #[{ name := "appName", type := (.object "java/lang/String"), accessFlags := 18, slot := 0, constantValue := 0 }, { name := "moduleName", type := (.object "java/lang/String"), accessFlags := 18, slot := 1, constantValue := 0 }, { name := "beanName", type := (.object "java/lang/String"), accessFlags := 18, slot := 2, constantValue := 0 }, { name := "viewName", type := (.object "java/lang/String"), accessFlags := 18, slot := 3, constantValue := 0 }]
  methods := #[k10m0, k10m1, k10m2, k10m3]
  instanceTypes := #[(.object "java/lang/String"), (.object "java/lang/String"), (.object "java/lang/String"), (.object "java/lang/String")]
  staticTypes := #[]
  resolved := Array.replicate 182 none
  statics := none }

def pool11 : Array CpInfo := pool [(2, .class_ 4), (1, u "java/lang/Object"), (0, u "<init>"), (0, u "()V"), (35, .class_ 44), (1, u "java/util/Objects"), (0, u "requireNonNull"), (48, u "(Ljava/lang/Object;Ljava/lang/String;)Ljava/lang/Object;")] 89

def k11m0 : Method := { name := "<init>", desc := "()V", sig := { parameters := [], returnType := none }, accessFlags := 2, code := none }
def k11c1 : Code := { maxStack := 3, maxLocals := 2, code := jdk_31_method_11_code, exceptionTable := #[], attributes := #[] }
def k11m1 : Method := { name := "requireNonNull", desc := "(Ljava/lang/Object;Ljava/lang/String;)Ljava/lang/Object;", sig := { parameters := [(.object "java/lang/Object"), (.object "java/lang/String")], returnType := some (.object "java/lang/Object") }, accessFlags := 9, code := some k11c1 }
/-- java/util/Objects -/
def k11 : Class := { plain "java/util/Objects" (some 0) with
  accessFlags := 49
  interfaces := #[]
  cf := some (fileOf pool11 42 #[] #[{ accessFlags := 2, nameIndex := 5, descriptorIndex := 6, attributes := #[] }, { accessFlags := 9, nameIndex := 45, descriptorIndex := 94, attributes := #[] }] 49 2 #[] #[])
  fields := #[]
  methods := #[k11m0, k11m1]
  instanceTypes := #[]
  staticTypes := #[]
  resolved := Array.replicate 184 none
  statics := none }

def pool12 : Array CpInfo := pool [(1, .class_ 2), (0, u "java/lang/Appendable"), (0, .class_ 4), (0, u "java/lang/Object")] 9

/-- java/lang/Appendable -/
def k12 : Class := { plain "java/lang/Appendable" (some 0) with
  accessFlags := 1537
  interfaces := #[]
  cf := some (fileOf pool12 1 #[] #[] 1537 3 #[] #[])
  fields := #[]
  methods := #[]
  instanceTypes := #[]
  staticTypes := #[]
  resolved := Array.replicate 14 none
  statics := none }

def pool13 : Array CpInfo := pool [(1, .class_ 2), (0, u "java/lang/String"), (0, .methodref 4 5), (0, .class_ 6), (0, .nameAndType 7 8), (0, u "java/lang/Object"), (0, u "<init>"), (0, u "()V"), (1, .class_ 12), (1, u "java/lang/AbstractStringBuilder"), (0, u "EMPTYVALUE"), (0, u "[B"), (0, .fieldref 10 16), (0, .nameAndType 17 14), (0, u "value"), (0, .fieldref 1 19), (0, .nameAndType 20 21), (0, u "COMPACT_STRINGS"), (0, u "Z"), (0, .fieldref 10 23), (0, .nameAndType 24 25), (0, u "coder"), (0, u "B"), (6, .methodref 1 33), (0, .nameAndType 34 35), (0, u "length"), (0, u "()I"), (3, .integer 2147483647), (0, .methodref 1 41), (0, .nameAndType 24 42), (0, u "()B"), (2, u "append"), (0, u "(Ljava/lang/String;)Ljava/lang/AbstractStringBuilder;"), (1, .class_ 49), (0, u "java/lang/CharSequence"), (19, u "(Ljava/lang/String;)V"), (5, u "maybeLatin1"), (3, .fieldref 10 80), (0, .nameAndType 81 82), (0, u "count"), (0, u "I"), (2, u "isLatin1"), (0, u "()Z"), (13, .methodref 10 101), (0, .nameAndType 102 103), (0, u "ensureCapacityInternal"), (0, u "(I)V"), (0, .methodref 10 105), (0, .nameAndType 106 107), (0, u "newCapacity"), (0, u "(I)I"), (0, .methodref 109 110), (0, .class_ 111), (0, .nameAndType 112 113), (0, u "java/util/Arrays"), (0, u "copyOf"), (0, u "([BI)[B"), (0, .methodref 115 116), (0, .class_ 117), (0, .nameAndType 118 119), (0, u "jdk/internal/util/ArraysSupport"), (0, u "newLength"), (0, u "(III)I"), (88, .methodref 10 209), (0, .nameAndType 210 211), (0, u "putStringAt"), (0, u "(ILjava/lang/String;)V"), (5, u "inflateIfNeededFor"), (2, .nameAndType 221 222), (0, u "getBytes"), (0, u "([BIB)V"), (174, .methodref 10 398), (0, .nameAndType 217 69), (0, .methodref 1 220), (3, u "()[B"), (40, .class_ 445), (0, u "java/lang/Appendable"), (106, u "getValue")] 56

def k13m0 : Method := { name := "<init>", desc := "()V", sig := { parameters := [], returnType := none }, accessFlags := 0, code := none }
def k13c1 : Code := { maxStack := 2, maxLocals := 2, code := jdk_68_method_2_code, exceptionTable := #[], attributes := #[] }
def k13m1 : Method := { name := "<init>", desc := "(I)V", sig := { parameters := [.int], returnType := none }, accessFlags := 0, code := some k13c1 }
def k13c2 : Code := { maxStack := 1, maxLocals := 1, code := jdk_68_method_6_code, exceptionTable := #[], attributes := #[] }
def k13m2 : Method := { name := "length", desc := "()I", sig := { parameters := [], returnType := some .int }, accessFlags := 1, code := some k13c2 }
def k13c3 : Code := { maxStack := 4, maxLocals := 3, code := jdk_68_method_9_code, exceptionTable := #[], attributes := #[] }
def k13m3 : Method := { name := "ensureCapacityInternal", desc := "(I)V", sig := { parameters := [.int], returnType := none }, accessFlags := 2, code := some k13c3 }
def k13c4 : Code := { maxStack := 5, maxLocals := 6, code := jdk_68_method_10_code, exceptionTable := #[], attributes := #[] }
def k13m4 : Method := { name := "newCapacity", desc := "(I)I", sig := { parameters := [.int], returnType := some .int }, accessFlags := 2, code := some k13c4 }
def k13c5 : Code := { maxStack := 3, maxLocals := 3, code := jdk_68_method_22_code, exceptionTable := #[], attributes := #[] }
def k13m5 : Method := { name := "append", desc := "(Ljava/lang/String;)Ljava/lang/AbstractStringBuilder;", sig := { parameters := [(.object "java/lang/String")], returnType := some (.object "java/lang/AbstractStringBuilder") }, accessFlags := 1, code := some k13c5 }
def k13c6 : Code := { maxStack := 1, maxLocals := 1, code := jdk_68_method_64_code, exceptionTable := #[], attributes := #[] }
def k13m6 : Method := { name := "getValue", desc := "()[B", sig := { parameters := [], returnType := some (.array .byte) }, accessFlags := 16, code := some k13c6 }
def k13c7 : Code := { maxStack := 1, maxLocals := 1, code := jdk_68_method_68_code, exceptionTable := #[], attributes := #[] }
def k13m7 : Method := { name := "isLatin1", desc := "()Z", sig := { parameters := [], returnType := some .boolean }, accessFlags := 16, code := some k13c7 }
def k13c8 : Code := { maxStack := 2, maxLocals := 2, code := jdk_68_method_71_code, exceptionTable := #[], attributes := #[] }
def k13m8 : Method := { name := "inflateIfNeededFor", desc := "(Ljava/lang/String;)V", sig := { parameters := [(.object "java/lang/String")], returnType := none }, accessFlags := 2, code := some k13c8 }
def k13c9 : Code := { maxStack := 4, maxLocals := 3, code := jdk_68_method_73_code, exceptionTable := #[], attributes := #[] }
def k13m9 : Method := { name := "putStringAt", desc := "(ILjava/lang/String;)V", sig := { parameters := [.int, (.object "java/lang/String")], returnType := none }, accessFlags := 2, code := some k13c9 }
/-- java/lang/AbstractStringBuilder -/
def k13 : Class := { plain "java/lang/AbstractStringBuilder" (some 0) with
  accessFlags := 1056
  interfaces := #[12, 4]
  cf := some (fileOf pool13 10 #[] #[{ accessFlags := 0, nameIndex := 7, descriptorIndex := 8, attributes := #[] }, { accessFlags := 0, nameIndex := 7, descriptorIndex := 103, attributes := #[] }, { accessFlags := 1, nameIndex := 34, descriptorIndex := 35, attributes := #[] }, { accessFlags := 2, nameIndex := 102, descriptorIndex := 103, attributes := #[] }, { accessFlags := 2, nameIndex := 106, descriptorIndex := 107, attributes := #[] }, { accessFlags := 1, nameIndex := 45, descriptorIndex := 46, attributes := #[] }, { accessFlags := 16, nameIndex := 552, descriptorIndex := 403, attributes := #[] }, { accessFlags := 16, nameIndex := 85, descriptorIndex := 86, attributes := #[] }, { accessFlags := 2, nameIndex := 217, descriptorIndex := 69, attributes := #[] }, { accessFlags := 2, nameIndex := 210, descriptorIndex := 211, attributes := #[] }] 1056 4 #[444, 48] #[{ accessFlags := 0, nameIndex := 17, descriptorIndex := 14, attributes := #[] }, { accessFlags := 0, nameIndex := 24, descriptorIndex := 25, attributes := #[] }, { accessFlags := 0, nameIndex := 75, descriptorIndex := 21, attributes := #[] }, { accessFlags := 0, nameIndex := 81, descriptorIndex := 82, attributes := #[] }, { accessFlags := 26, nameIndex := 13, descriptorIndex := 14, attributes := #[] }])
  fields := #[{ name := "value", type := (.array .byte), accessFlags := 0, slot := 0, constantValue := 0 }, { name := "coder", type := .byte, accessFlags := 0, slot := 1, constantValue := 0 }, { name := "maybeLatin1", type := .boolean, accessFlags := 0, slot := 2, constantValue := 0 }, { name := "count", type := .int, accessFlags := 0, slot := 3, constantValue := 0 }, { name := "EMPTYVALUE", type := (.array .byte), accessFlags := 26, slot := 0, constantValue := 0 }]
  methods := #[k13m0, k13m1, k13m2, k13m3, k13m4, k13m5, k13m6, k13m7, k13m8, k13m9]
  instanceTypes := #[(.array .byte), .byte, .boolean, .int]
  staticTypes := #[(.array .byte)]
  resolved := Array.replicate 609 none
  statics := none }

def pool14 : Array CpInfo := pool [(1, .methodref 2 3), (0, .class_ 4), (0, .nameAndType 5 6), (0, u "java/lang/AbstractStringBuilder"), (0, u "<init>"), (0, u "(I)V"), (11, .class_ 20), (1, u "java/lang/String"), (3, .class_ 26), (1, u "java/lang/StringBuilder"), (0, u "append"), (0, u "(Ljava/lang/String;)Ljava/lang/StringBuilder;"), (0, .methodref 2 30), (0, .nameAndType 27 31), (0, u "(Ljava/lang/String;)Ljava/lang/AbstractStringBuilder;"), (105, .methodref 18 138), (0, .nameAndType 5 139), (0, u "(Ljava/lang/StringBuilder;)V"), (5, u "()V"), (10, u "()I"), (186, .methodref 2 344), (0, .nameAndType 345 156), (0, u "length"), (3, .class_ 350), (0, u "java/lang/Appendable"), (0, .class_ 352), (0, u "java/io/Serializable"), (0, .class_ 354), (0, u "java/lang/Comparable"), (0, .class_ 356), (0, u "java/lang/CharSequence"), (0, u "serialVersionUID"), (0, u "J"), (40, u "toString"), (0, u "()Ljava/lang/String;")] 21

def k14c0 : Code := { maxStack := 2, maxLocals := 1, code := jdk_67_method_1_code, exceptionTable := #[], attributes := #[] }
def k14m0 : Method := { name := "<init>", desc := "()V", sig := { parameters := [], returnType := none }, accessFlags := 1, code := some k14c0 }
def k14c1 : Code := { maxStack := 2, maxLocals := 2, code := jdk_67_method_7_code, exceptionTable := #[], attributes := #[] }
def k14m1 : Method := { name := "append", desc := "(Ljava/lang/String;)Ljava/lang/StringBuilder;", sig := { parameters := [(.object "java/lang/String")], returnType := some (.object "java/lang/StringBuilder") }, accessFlags := 1, code := some k14c1 }
def k14c2 : Code := { maxStack := 3, maxLocals := 1, code := jdk_67_method_42_code, exceptionTable := #[], attributes := #[] }
def k14m2 : Method := { name := "toString", desc := "()Ljava/lang/String;", sig := { parameters := [], returnType := some (.object "java/lang/String") }, accessFlags := 1, code := some k14c2 }
def k14c3 : Code := { maxStack := 1, maxLocals := 1, code := jdk_67_method_93_code, exceptionTable := #[], attributes := #[] }
def k14m3 : Method := { name := "length", desc := "()I", sig := { parameters := [], returnType := some .int }, accessFlags := 4161, code := some k14c3 }
/-- java/lang/StringBuilder -/
def k14 : Class := { plain "java/lang/StringBuilder" (some 13) with
  accessFlags := 49
  interfaces := #[12, 2, 3, 4]
  cf := some (fileOf pool14 24 #[] #[{ accessFlags := 1, nameIndex := 5, descriptorIndex := 145, attributes := #[] }, { accessFlags := 1, nameIndex := 27, descriptorIndex := 28, attributes := #[] }, { accessFlags := 1, nameIndex := 399, descriptorIndex := 400, attributes := #[] }, { accessFlags := 4161, nameIndex := 345, descriptorIndex := 156, attributes := #[] }] 49 2 #[349, 351, 353, 355] #[{ accessFlags := 24, nameIndex := 357, descriptorIndex := 358, attributes := #[] }])
  fields := #[{ name := "serialVersionUID", type := .long, accessFlags := 24, slot := 0, constantValue := 0 }]
  methods := #[k14m0, k14m1, k14m2, k14m3]
  instanceTypes := #[(.array .byte), .byte, .boolean, .int]
  staticTypes := #[.long]
  resolved := Array.replicate 422 none
  statics := none }

def pool15 : Array CpInfo := pool [(2, .class_ 4), (1, u "java/lang/Object"), (0, u "<init>"), (0, u "()V"), (1, .class_ 10), (1, u "java/lang/System"), (0, u "allowSecurityManager"), (0, u "I"), (16, u "cons"), (0, u "Ljava/io/Console;"), (77, .class_ 110), (1, u "java/lang/System$CallersHolder"), (43, u "initialErrStream"), (0, u "Ljava/io/PrintStream;"), (19, u "security"), (0, u "Ljava/lang/SecurityManager;"), (31, .class_ 209), (0, u "java/lang/System$1"), (7, u "props"), (0, u "Ljava/util/Properties;"), (2, u "lineSeparator"), (0, u "Ljava/lang/String;"), (96, .class_ 321), (1, u "java/lang/System$LoggerFinder"), (5, .class_ 328), (0, u "java/lang/System$Logger"), (67, u "err"), (2, u "out"), (91, u "notSupportedJnuEncoding"), (15, u "in"), (17, u "initialIn"), (0, u "Ljava/io/InputStream;"), (35, u "bootLayer"), (0, u "Ljava/lang/ModuleLayer;"), (99, .class_ 664), (0, u "java/lang/System$2"), (9, u "NEVER"), (2, u "MAYBE"), (49, u "arraycopy"), (0, u "(Ljava/lang/Object;ILjava/lang/Object;II)V"), (72, .class_ 802), (0, u "java/lang/System$Logger$Level")] 31

def k15m0 : Method := { name := "<init>", desc := "()V", sig := { parameters := [], returnType := none }, accessFlags := 2, code := none }
def k15m1 : Method := { name := "arraycopy", desc := "(Ljava/lang/Object;ILjava/lang/Object;II)V", sig := { parameters := [(.object "java/lang/Object"), .int, (.object "java/lang/Object"), .int, .int], returnType := none }, accessFlags := 265, code := none }
/-- java/lang/System -/
def k15 : Class := { plain "java/lang/System" (some 0) with
  accessFlags := 49
  interfaces := #[]
  cf := some (fileOf pool15 8 #[.nestMembers #[319, 327, 801, 108, 663, 208]] #[{ accessFlags := 2, nameIndex := 5, descriptorIndex := 6, attributes := #[] }, { accessFlags := 265, nameIndex := 727, descriptorIndex := 728, attributes := #[] }] 49 2 #[] #[{ accessFlags := 25, nameIndex := 507, descriptorIndex := 526, attributes := #[] }, { accessFlags := 25, nameIndex := 399, descriptorIndex := 155, attributes := #[] }, { accessFlags := 25, nameIndex := 396, descriptorIndex := 155, attributes := #[] }, { accessFlags := 10, nameIndex := 525, descriptorIndex := 526, attributes := #[] }, { accessFlags := 26, nameIndex := 674, descriptorIndex := 12, attributes := #[] }, { accessFlags := 26, nameIndex := 677, descriptorIndex := 12, attributes := #[] }, { accessFlags := 10, nameIndex := 11, descriptorIndex := 12, attributes := #[] }, { accessFlags := 74, nameIndex := 175, descriptorIndex := 176, attributes := #[] }, { accessFlags := 10, nameIndex := 491, descriptorIndex := 222, attributes := #[] }, { accessFlags := 74, nameIndex := 29, descriptorIndex := 30, attributes := #[] }, { accessFlags := 74, nameIndex := 154, descriptorIndex := 155, attributes := #[] }, { accessFlags := 10, nameIndex := 217, descriptorIndex := 218, attributes := #[] }, { accessFlags := 10, nameIndex := 221, descriptorIndex := 222, attributes := #[] }, { accessFlags := 8, nameIndex := 562, descriptorIndex := 563, attributes := #[] }])
  fields := #[{ name := "in", type := (.object "java/io/InputStream"), accessFlags := 25, slot := 0, constantValue := 0 }, { name := "out", type := (.object "java/io/PrintStream"), accessFlags := 25, slot := 1, constantValue := 0 }, { name := "err", type := (.object "java/io/PrintStream"), accessFlags := 25, slot := 2, constantValue := 0 }, { name := "initialIn", type := (.object "java/io/InputStream"), accessFlags := 10, slot := 3, constantValue := 0 }, { name := "NEVER", type := .int, accessFlags := 26, slot := 4, constantValue := 0 }, { name := "MAYBE", type := .int, accessFlags := 26, slot := 5, constantValue := 0 }, { name := "allowSecurityManager", type := .int, accessFlags := 10, slot := 6, constantValue := 0 }, { name := "security", type := (.object "java/lang/SecurityManager"), accessFlags := 74, slot := 7, constantValue := 0 }, { name := "notSupportedJnuEncoding", type := (.object "java/lang/String"), accessFlags := 10, slot := 8, constantValue := 0 }, { name := "cons", type := (.object "java/io/Console"), accessFlags := 74, slot := 9, constantValue := 0 }, { name := "initialErrStream", type := (.object "java/io/PrintStream"), accessFlags := 74, slot := 10, constantValue := 0 }, { name := "props", type := (.object "java/util/Properties"), accessFlags := 10, slot := 11, constantValue := 0 }, { name := "lineSeparator", type := (.object "java/lang/String"), accessFlags := 10, slot := 12, constantValue := 0 }, { name := "bootLayer", type := (.object "java/lang/ModuleLayer"), accessFlags := 8, slot := 13, constantValue := 0 }]
  methods := #[k15m0, k15m1]
  instanceTypes := #[]
  staticTypes := #[(.object "java/io/InputStream"), (.object "java/io/PrintStream"), (.object "java/io/PrintStream"), (.object "java/io/InputStream"), .int, .int, .int, (.object "java/lang/SecurityManager"), (.object "java/lang/String"), (.object "java/io/Console"), (.object "java/io/PrintStream"), (.object "java/util/Properties"), (.object "java/lang/String"), (.object "java/lang/ModuleLayer")]
  resolved := Array.replicate 834 none
  statics := none }

def pool16 : Array CpInfo := pool [(2, .class_ 4), (1, u "java/lang/Object"), (0, u "<init>"), (0, u "()V"), (7, .class_ 16), (1, u "java/util/Arrays"), (57, .class_ 76), (1, u "java/util/Arrays$NaturalOrder"), (32, u "()Ljava/lang/Object;"), (3, .class_ 115), (1, u "java/util/Arrays$LegacyMergeSort"), (1, u "Z"), (10, .nameAndType 129 109), (0, u "clone"), (9, u "copyOfRange"), (10, .methodref 151 152), (0, .class_ 153), (0, .nameAndType 154 155), (0, u "java/lang/System"), (0, u "arraycopy"), (0, u "(Ljava/lang/Object;ILjava/lang/Object;II)V"), (146, u "copyOf"), (1, .methodref 305 306), (0, .class_ 307), (0, .nameAndType 308 309), (0, u "java/lang/Math"), (0, u "min"), (0, u "(II)I"), (0, .methodref 311 128), (0, .class_ 312), (0, u "[B"), (26, .methodref 14 340), (0, .nameAndType 341 342), (0, u "copyOfRangeByte"), (0, u "([BII)[B"), (0, .methodref 14 344), (0, .nameAndType 345 346), (0, u "checkLength"), (0, u "(II)V"), (28, .class_ 376), (0, u "java/util/Arrays$ArrayList"), (68, u "$assertionsDisabled"), (269, u "MIN_ARRAY_SORT_GRAN"), (0, u "I"), (2, u "INSERTIONSORT_THRESHOLD"), (149, u "([BI)[B"), (105, .class_ 976), (0, u "java/util/Arrays$ArrayItr")] 52

def k16m0 : Method := { name := "<init>", desc := "()V", sig := { parameters := [], returnType := none }, accessFlags := 2, code := none }
def k16c1 : Code := { maxStack := 6, maxLocals := 3, code := jdk_65_method_121_code, exceptionTable := #[], attributes := #[] }
def k16m1 : Method := { name := "copyOf", desc := "([BI)[B", sig := { parameters := [(.array .byte), .int], returnType := some (.array .byte) }, accessFlags := 9, code := some k16c1 }
def k16c2 : Code := { maxStack := 4, maxLocals := 2, code := jdk_65_method_131_code, exceptionTable := #[], attributes := #[] }
def k16m2 : Method := { name := "checkLength", desc := "(II)V", sig := { parameters := [.int, .int], returnType := none }, accessFlags := 10, code := some k16c2 }
def k16c3 : Code := { maxStack := 3, maxLocals := 3, code := jdk_65_method_132_code, exceptionTable := #[], attributes := #[] }
def k16m3 : Method := { name := "copyOfRange", desc := "([BII)[B", sig := { parameters := [(.array .byte), .int, .int], returnType := some (.array .byte) }, accessFlags := 9, code := some k16c3 }
def k16c4 : Code := { maxStack := 6, maxLocals := 5, code := jdk_65_method_133_code, exceptionTable := #[], attributes := #[] }
def k16m4 : Method := { name := "copyOfRangeByte", desc := "([BII)[B", sig := { parameters := [(.array .byte), .int, .int], returnType := some (.array .byte) }, accessFlags := 10, code := some k16c4 }
/-- java/util/Arrays -/
def k16 : Class := { plain "java/util/Arrays" (some 0) with
  accessFlags := 49
  interfaces := #[]
  cf := some (fileOf pool16 14 #[.nestMembers #[975, 375, 113, 74]] #[{ accessFlags := 2, nameIndex := 5, descriptorIndex := 6, attributes := #[] }, { accessFlags := 9, nameIndex := 302, descriptorIndex := 869, attributes := #[] }, { accessFlags := 10, nameIndex := 345, descriptorIndex := 346, attributes := #[] }, { accessFlags := 9, nameIndex := 139, descriptorIndex := 342, attributes := #[] }, { accessFlags := 10, nameIndex := 341, descriptorIndex := 342, attributes := #[] }] 49 2 #[] #[{ accessFlags := 26, nameIndex := 715, descriptorIndex := 716, attributes := #[] }, { accessFlags := 26, nameIndex := 719, descriptorIndex := 716, attributes := #[] }, { accessFlags := 4120, nameIndex := 445, descriptorIndex := 117, attributes := #[] }])
  fields := #[{ name := "MIN_ARRAY_SORT_GRAN", type := .int, accessFlags := 26, slot := 0, constantValue := 0 }, { name := "INSERTIONSORT_THRESHOLD", type := .int, accessFlags := 26, slot := 1, constantValue := 0 }, { name := "$assertionsDisabled", type := .boolean, accessFlags := 4120, slot := 2, constantValue := 0 }]
  methods := #[k16m0, k16m1, k16m2, k16m3, k16m4]
  instanceTypes := #[]
  staticTypes := #[.int, .int, .boolean]
  resolved := Array.replicate 1029 none
  statics := none }

def pool17 : Array CpInfo := pool [(1, .class_ 2), (0, u "java/lang/Math"), (1, .class_ 6), (1, u "java/lang/Object"), (0, u "<init>"), (0, u "()V"), (89, .class_ 100), (1, u "java/lang/Math$RandomNumberGeneratorHolder"), (71, u "negativeZeroFloatBits"), (0, u "J"), (2, u "negativeZeroDoubleBits"), (21, u "max"), (2, u "min"), (43, u "$assertionsDisabled"), (0, u "Z"), (88, u "(II)I"), (2, u "twoToTheDoubleScaleDown"), (0, u "D"), (4, u "twoToTheDoubleScaleUp"), (9, u "E"), (3, u "PI"), (2, u "TAU"), (2, u "DEGREES_TO_RADIANS"), (0, u "RADIANS_TO_DEGREES")] 94

def k17m0 : Method := { name := "<init>", desc := "()V", sig := { parameters := [], returnType := none }, accessFlags := 2, code := none }
def k17c1 : Code := { maxStack := 2, maxLocals := 2, code := jdk_29_method_65_code, exceptionTable := #[], attributes := #[] }
def k17m1 : Method := { name := "max", desc := "(II)I", sig := { parameters := [.int, .int], returnType := some .int }, accessFlags := 9, code := some k17c1 }
def k17c2 : Code := { maxStack := 2, maxLocals := 2, code := jdk_29_method_69_code, exceptionTable := #[], attributes := #[] }
def k17m2 : Method := { name := "min", desc := "(II)I", sig := { parameters := [.int, .int], returnType := some .int }, accessFlags := 9, code := some k17c2 }
/-- java/lang/Math -/
def k17 : Class := { plain "java/lang/Math" (some 0) with
  accessFlags := 49
  interfaces := #[]
  cf := some (fileOf pool17 1 #[.nestMembers #[98]] #[{ accessFlags := 2, nameIndex := 7, descriptorIndex := 8, attributes := #[] }, { accessFlags := 9, nameIndex := 198, descriptorIndex := 335, attributes := #[] }, { accessFlags := 9, nameIndex := 201, descriptorIndex := 335, attributes := #[] }] 49 4 #[] #[{ accessFlags := 25, nameIndex := 354, descriptorIndex := 339, attributes := #[] }, { accessFlags := 25, nameIndex := 358, descriptorIndex := 339, attributes := #[] }, { accessFlags := 25, nameIndex := 361, descriptorIndex := 339, attributes := #[] }, { accessFlags := 26, nameIndex := 364, descriptorIndex := 339, attributes := #[] }, { accessFlags := 26, nameIndex := 365, descriptorIndex := 339, attributes := #[] }, { accessFlags := 26, nameIndex := 172, descriptorIndex := 173, attributes := #[] }, { accessFlags := 26, nameIndex := 176, descriptorIndex := 173, attributes := #[] }, { accessFlags := 8, nameIndex := 344, descriptorIndex := 339, attributes := #[] }, { accessFlags := 8, nameIndex := 338, descriptorIndex := 339, attributes := #[] }, { accessFlags := 4120, nameIndex := 245, descriptorIndex := 246, attributes := #[] }])
  fields := #[{ name := "E", type := .double, accessFlags := 25, slot := 0, constantValue := 0 }, { name := "PI", type := .double, accessFlags := 25, slot := 1, constantValue := 0 }, { name := "TAU", type := .double, accessFlags := 25, slot := 2, constantValue := 0 }, { name := "DEGREES_TO_RADIANS", type := .double, accessFlags := 26, slot := 3, constantValue := 0 }, { name := "RADIANS_TO_DEGREES", type := .double, accessFlags := 26, slot := 4, constantValue := 0 }, { name := "negativeZeroFloatBits", type := .long, accessFlags := 26, slot := 5, constantValue := 0 }, { name := "negativeZeroDoubleBits", type := .long, accessFlags := 26, slot := 6, constantValue := 0 }, { name := "twoToTheDoubleScaleUp", type := .double, accessFlags := 8, slot := 7, constantValue := 0 }, { name := "twoToTheDoubleScaleDown", type := .double, accessFlags := 8, slot := 8, constantValue := 0 }, { name := "$assertionsDisabled", type := .boolean, accessFlags := 4120, slot := 9, constantValue := 0 }]
  methods := #[k17m0, k17m1, k17m2]
  instanceTypes := #[]
  staticTypes := #[.double, .double, .double, .double, .double, .long, .long, .double, .double, .boolean]
  resolved := Array.replicate 460 none
  statics := none }

def pool18 : Array CpInfo := pool [(2, .class_ 4), (1, u "java/lang/Object"), (0, u "<init>"), (0, u "()V"), (17, .class_ 26), (1, u "jdk/internal/util/Preconditions"), (6, u "checkIndex"), (21, .class_ 56), (0, u "jdk/internal/util/Preconditions$4"), (57, .class_ 115), (0, u "jdk/internal/util/Preconditions$1"), (7, u "SIOOBE_FORMATTER"), (0, u "Ljava/util/function/BiFunction;"), (0, .class_ 126), (0, u "jdk/internal/util/Preconditions$2"), (3, u "AIOOBE_FORMATTER"), (0, .class_ 132), (0, u "jdk/internal/util/Preconditions$3"), (3, u "IOOBE_FORMATTER"), (41, u "(IILjava/util/function/BiFunction;)I")] 15

def k18m0 : Method := { name := "<init>", desc := "()V", sig := { parameters := [], returnType := none }, accessFlags := 1, code := none }
def k18c1 : Code := { maxStack := 3, maxLocals := 3, code := jdk_41_method_11_code, exceptionTable := #[], attributes := #[] }
def k18m1 : Method := { name := "checkIndex", desc := "(IILjava/util/function/BiFunction;)I", sig := { parameters := [.int, .int, (.object "java/util/function/BiFunction")], returnType := some .int }, accessFlags := 9, code := some k18c1 }
/-- jdk/internal/util/Preconditions -/
def k18 : Class := { plain "jdk/internal/util/Preconditions" (some 0) with
  accessFlags := 33
  interfaces := #[]
  cf := some (fileOf pool18 24 #[.nestMembers #[55, 131, 125, 114]] #[{ accessFlags := 1, nameIndex := 5, descriptorIndex := 6, attributes := #[] }, { accessFlags := 9, nameIndex := 33, descriptorIndex := 178, attributes := #[] }] 33 2 #[] #[{ accessFlags := 25, nameIndex := 123, descriptorIndex := 124, attributes := #[] }, { accessFlags := 25, nameIndex := 130, descriptorIndex := 124, attributes := #[] }, { accessFlags := 25, nameIndex := 136, descriptorIndex := 124, attributes := #[] }])
  fields := #[{ name := "SIOOBE_FORMATTER", type := (.object "java/util/function/BiFunction"), accessFlags := 25, slot := 0, constantValue := 0 }, { name := "AIOOBE_FORMATTER", type := (.object "java/util/function/BiFunction"), accessFlags := 25, slot := 1, constantValue := 0 }, { name := "IOOBE_FORMATTER", type := (.object "java/util/function/BiFunction"), accessFlags := 25, slot := 2, constantValue := 0 }]
  methods := #[k18m0, k18m1]
  instanceTypes := #[]
  staticTypes := #[(.object "java/util/function/BiFunction"), (.object "java/util/function/BiFunction"), (.object "java/util/function/BiFunction")]
  resolved := Array.replicate 194 none
  statics := some 1 }

def pool19 : Array CpInfo := pool [(6, .class_ 8), (1, u "java/lang/Object"), (0, u "<init>"), (0, u "()V"), (1, .class_ 14), (1, u "java/lang/StringUTF16"), (31, u "$assertionsDisabled"), (0, u "Z"), (13, u "HI_BYTE_SHIFT"), (0, u "I"), (2, u "LO_BYTE_SHIFT"), (49, .methodref 12 116), (0, .nameAndType 117 118), (0, u "compress"), (0, u "([CI[BII)I"), (3, u "([CII)[B"), (138, u "coderFromArrayLen"), (0, u "([BI)B"), (106, .class_ 371), (1, u "java/lang/StringUTF16$LinesSpliterator"), (58, u "MAX_LENGTH"), (196, .class_ 628), (0, u "java/lang/StringUTF16$CodePointsSpliterator"), (0, .class_ 630), (0, u "java/lang/StringUTF16$CharsSpliterator")] 4

def k19m0 : Method := { name := "<init>", desc := "()V", sig := { parameters := [], returnType := none }, accessFlags := 0, code := none }
def k19c1 : Code := { maxStack := 2, maxLocals := 2, code := jdk_52_method_15_code, exceptionTable := #[], attributes := #[] }
def k19m1 : Method := { name := "coderFromArrayLen", desc := "([BI)B", sig := { parameters := [(.array .byte), .int], returnType := some .byte }, accessFlags := 8, code := some k19c1 }
def k19c2 : Code := { maxStack := 5, maxLocals := 6, code := jdk_52_method_16_code, exceptionTable := #[], attributes := #[] }
def k19m2 : Method := { name := "compress", desc := "([CII)[B", sig := { parameters := [(.array .char), .int, .int], returnType := some (.array .byte) }, accessFlags := 9, code := some k19c2 }
def k19c3 : Code := { maxStack := 3, maxLocals := 7, code := jdk_52_method_21_code, exceptionTable := #[], attributes := #[] }
def k19m3 : Method := { name := "compress", desc := "([CI[BII)I", sig := { parameters := [(.array .char), .int, (.array .byte), .int, .int], returnType := some .int }, accessFlags := 9, code := some k19c3 }
/-- java/lang/StringUTF16 -/
def k19 : Class := { plain "java/lang/StringUTF16" (some 0) with
  accessFlags := 48
  interfaces := #[]
  cf := some (fileOf pool19 12 #[.nestMembers #[627, 629, 369]] #[{ accessFlags := 0, nameIndex := 9, descriptorIndex := 10, attributes := #[] }, { accessFlags := 8, nameIndex := 261, descriptorIndex := 262, attributes := #[] }, { accessFlags := 9, nameIndex := 117, descriptorIndex := 122, attributes := #[] }, { accessFlags := 9, nameIndex := 117, descriptorIndex := 118, attributes := #[] }] 48 6 #[] #[{ accessFlags := 26, nameIndex := 61, descriptorIndex := 62, attributes := #[] }, { accessFlags := 26, nameIndex := 65, descriptorIndex := 62, attributes := #[] }, { accessFlags := 24, nameIndex := 430, descriptorIndex := 62, attributes := #[] }, { accessFlags := 4120, nameIndex := 46, descriptorIndex := 47, attributes := #[] }])
  fields := #[{ name := "HI_BYTE_SHIFT", type := .int, accessFlags := 26, slot := 0, constantValue := 0 }, { name := "LO_BYTE_SHIFT", type := .int, accessFlags := 26, slot := 1, constantValue := 0 }, { name := "MAX_LENGTH", type := .int, accessFlags := 24, slot := 2, constantValue := 0 }, { name := "$assertionsDisabled", type := .boolean, accessFlags := 4120, slot := 3, constantValue := 0 }]
  methods := #[k19m0, k19m1, k19m2, k19m3]
  instanceTypes := #[]
  staticTypes := #[.int, .int, .int, .boolean]
  resolved := Array.replicate 635 none
  statics := none }

def pool20 : Array CpInfo := pool [(1, .class_ 2), (0, u "java/lang/Cloneable"), (0, .class_ 4), (0, u "java/lang/Object")] 2

/-- java/lang/Cloneable -/
def k20 : Class := { plain "java/lang/Cloneable" (some 0) with
  accessFlags := 1537
  interfaces := #[]
  cf := some (fileOf pool20 1 #[] #[] 1537 3 #[] #[])
  fields := #[]
  methods := #[]
  instanceTypes := #[]
  staticTypes := #[]
  resolved := Array.replicate 7 none
  statics := none }

def pool21 : Array CpInfo := pool [(9, u "<init>"), (6, .class_ 18), (1, u "java/lang/Object"), (0, u "()V"), (1, .class_ 23), (1, u "jdk/internal/util/ArraysSupport"), (0, u "LOG2_ARRAY_LONG_INDEX_SCALE"), (0, u "I"), (2, u "U"), (0, u "Ljdk/internal/misc/Unsafe;"), (8, u "BIG_ENDIAN"), (0, u "Z"), (8, u "LOG2_BYTE_BIT_SIZE"), (4, u "LOG2_ARRAY_INT_INDEX_SCALE"), (54, u "JLA"), (0, u "Ljdk/internal/access/JavaLangAccess;"), (11, u "LOG2_ARRAY_BOOLEAN_INDEX_SCALE"), (9, u "LOG2_ARRAY_BYTE_INDEX_SCALE"), (5, u "LOG2_ARRAY_CHAR_INDEX_SCALE"), (5, u "LOG2_ARRAY_SHORT_INDEX_SCALE"), (18, u "LOG2_ARRAY_FLOAT_INDEX_SCALE"), (24, u "LOG2_ARRAY_DOUBLE_INDEX_SCALE"), (6, .methodref 195 196), (0, .class_ 197), (0, .nameAndType 198 199), (0, u "java/lang/Math"), (0, u "max"), (0, u "(II)I"), (0, .integer 2147483639), (76, u "T_BOOLEAN"), (2, u "T_CHAR"), (1, u "T_FLOAT"), (1, u "T_DOUBLE"), (1, u "T_BYTE"), (1, u "T_SHORT"), (1, u "T_INT"), (1, u "T_LONG"), (1, u "SOFT_MAX_ARRAY_LENGTH"), (56, u "newLength"), (0, u "(III)I")] 25

def k21m0 : Method := { name := "<init>", desc := "()V", sig := { parameters := [], returnType := none }, accessFlags := 2, code := none }
def k21c1 : Code := { maxStack := 3, maxLocals := 4, code := jdk_48_method_27_code, exceptionTable := #[], attributes := #[] }
def k21m1 : Method := { name := "newLength", desc := "(III)I", sig := { parameters := [.int, .int, .int], returnType := some .int }, accessFlags := 9, code := some k21c1 }
/-- jdk/internal/util/ArraysSupport -/
def k21 : Class := { plain "jdk/internal/util/ArraysSupport" (some 0) with
  accessFlags := 33
  interfaces := #[]
  cf := some (fileOf pool21 21 #[] #[{ accessFlags := 2, nameIndex := 9, descriptorIndex := 19, attributes := #[] }, { accessFlags := 9, nameIndex := 351, descriptorIndex := 352, attributes := #[] }] 33 16 #[] #[{ accessFlags := 24, nameIndex := 28, descriptorIndex := 29, attributes := #[] }, { accessFlags := 26, nameIndex := 38, descriptorIndex := 39, attributes := #[] }, { accessFlags := 25, nameIndex := 121, descriptorIndex := 25, attributes := #[] }, { accessFlags := 25, nameIndex := 131, descriptorIndex := 25, attributes := #[] }, { accessFlags := 25, nameIndex := 137, descriptorIndex := 25, attributes := #[] }, { accessFlags := 25, nameIndex := 143, descriptorIndex := 25, attributes := #[] }, { accessFlags := 25, nameIndex := 53, descriptorIndex := 25, attributes := #[] }, { accessFlags := 25, nameIndex := 24, descriptorIndex := 25, attributes := #[] }, { accessFlags := 25, nameIndex := 162, descriptorIndex := 25, attributes := #[] }, { accessFlags := 25, nameIndex := 187, descriptorIndex := 25, attributes := #[] }, { accessFlags := 26, nameIndex := 48, descriptorIndex := 25, attributes := #[] }, { accessFlags := 25, nameIndex := 277, descriptorIndex := 25, attributes := #[] }, { accessFlags := 25, nameIndex := 280, descriptorIndex := 25, attributes := #[] }, { accessFlags := 25, nameIndex := 282, descriptorIndex := 25, attributes := #[] }, { accessFlags := 25, nameIndex := 284, descriptorIndex := 25, attributes := #[] }, { accessFlags := 25, nameIndex := 286, descriptorIndex := 25, attributes := #[] }, { accessFlags := 25, nameIndex := 288, descriptorIndex := 25, attributes := #[] }, { accessFlags := 25, nameIndex := 290, descriptorIndex := 25, attributes := #[] }, { accessFlags := 25, nameIndex := 292, descriptorIndex := 25, attributes := #[] }, { accessFlags := 26, nameIndex := 108, descriptorIndex := 109, attributes := #[] }, { accessFlags := 25, nameIndex := 294, descriptorIndex := 25, attributes := #[] }])
  fields := #[{ name := "U", type := (.object "jdk/internal/misc/Unsafe"), accessFlags := 24, slot := 0, constantValue := 0 }, { name := "BIG_ENDIAN", type := .boolean, accessFlags := 26, slot := 1, constantValue := 0 }, { name := "LOG2_ARRAY_BOOLEAN_INDEX_SCALE", type := .int, accessFlags := 25, slot := 2, constantValue := 0 }, { name := "LOG2_ARRAY_BYTE_INDEX_SCALE", type := .int, accessFlags := 25, slot := 3, constantValue := 0 }, { name := "LOG2_ARRAY_CHAR_INDEX_SCALE", type := .int, accessFlags := 25, slot := 4, constantValue := 0 }, { name := "LOG2_ARRAY_SHORT_INDEX_SCALE", type := .int, accessFlags := 25, slot := 5, constantValue := 0 }, { name := "LOG2_ARRAY_INT_INDEX_SCALE", type := .int, accessFlags := 25, slot := 6, constantValue := 0 }, { name := "LOG2_ARRAY_LONG_INDEX_SCALE", type := .int, accessFlags := 25, slot := 7, constantValue := 0 }, { name := "LOG2_ARRAY_FLOAT_INDEX_SCALE", type := .int, accessFlags := 25, slot := 8, constantValue := 0 }, { name := "LOG2_ARRAY_DOUBLE_INDEX_SCALE", type := .int, accessFlags := 25, slot := 9, constantValue := 0 }, { name := "LOG2_BYTE_BIT_SIZE", type := .int, accessFlags := 26, slot := 10, constantValue := 0 }, { name := "T_BOOLEAN", type := .int, accessFlags := 25, slot := 11, constantValue := 0 }, { name := "T_CHAR", type := .int, accessFlags := 25, slot := 12, constantValue := 0 }, { name := "T_FLOAT", type := .int, accessFlags := 25, slot := 13, constantValue := 0 }, { name := "T_DOUBLE", type := .int, accessFlags := 25, slot := 14, constantValue := 0 }, { name := "T_BYTE", type := .int, accessFlags := 25, slot := 15, constantValue := 0 }, { name := "T_SHORT", type := .int, accessFlags := 25, slot := 16, constantValue := 0 }, { name := "T_INT", type := .int, accessFlags := 25, slot := 17, constantValue := 0 }, { name := "T_LONG", type := .int, accessFlags := 25, slot := 18, constantValue := 0 }, { name := "JLA", type := (.object "jdk/internal/access/JavaLangAccess"), accessFlags := 26, slot := 19, constantValue := 0 }, { name := "SOFT_MAX_ARRAY_LENGTH", type := .int, accessFlags := 25, slot := 20, constantValue := 0 }]
  methods := #[k21m0, k21m1]
  instanceTypes := #[]
  staticTypes := #[(.object "jdk/internal/misc/Unsafe"), .boolean, .int, .int, .int, .int, .int, .int, .int, .int, .int, .int, .int, .int, .int, .int, .int, .int, .int, (.object "jdk/internal/access/JavaLangAccess"), .int]
  resolved := Array.replicate 378 none
  statics := none }

/-- the primitive byte -/
def k22 : Class := { plain "byte" none with kind := .primitive 'B', accessFlags := 0x411 }
/-- [B -/
def k23 : Class := { plain "[B" (some 0) with kind := .array 22 .byte, interfaces := #[20, 2], accessFlags := 1041 }

/-- the primitive char -/
def k24 : Class := { plain "char" none with kind := .primitive 'C', accessFlags := 0x411 }
/-- [C -/
def k25 : Class := { plain "[C" (some 0) with kind := .array 24 .char, interfaces := #[20, 2], accessFlags := 1041 }

/-- the primitive int -/
def k26 : Class := { plain "int" none with kind := .primitive 'I', accessFlags := 0x411 }
/-- [I -/
def k27 : Class := { plain "[I" (some 0) with kind := .array 26 .int, interfaces := #[20, 2], accessFlags := 1041 }

def heap : Heap := #[{ cls := 7, slots := #[.long 0, .int 1, .null, .int 0, .null, .int 0, .int 0], vm := .statics 7 },
  { cls := 18, slots := #[.null, .null, .null], vm := .statics 18 }]
def classes : Array Class := #[k0, k1, k2, k3, k4, k5, k6, k7, k8, k9, k10, k11, k12, k13, k14, k15, k16, k17, k18, k19, k20, k21, k22, k23, k24, k25, k26, k27]
def interned : List (Array UInt16 × Addr) := []
def slotsUsed : Nat := 10
def theMethod : MethodId := ⟨1, 3⟩
def args0 : Array Value := #[.int 5, .int 6, .int 7, .int 8]
def aboutOver (below : List Frame) : State where
  vm := { classes := classes, interned := interned.toArray }
  heap := heap
  slotsUsed := slotsUsed
  threads := #[{ frames := .invoking theMethod args0 :: below }]
def below0 : List Frame := [.native { method := ⟨0, 0⟩, args := #[] }]
def about1 : State := aboutOver below0
def p0 : Program := .bare "" "" ""
def e0 : Env := launch0.env 0 0 0
theorem w_frames : about1.frames = Frame.invoking theMethod args0 :: below0 := rfl
set_option maxRecDepth 65536 in
theorem w_args : argsFit about1.vm theMethod args0 = true := by decide +kernel
set_option maxRecDepth 65536 in
theorem w_heap : heapFits about1 = true := by decide +kernel
set_option maxRecDepth 65536 in
theorem w_runnable : about1.curStatus? = some .runnable := by decide +kernel
set_option maxRecDepth 65536 in
theorem w_alone : about1.alone = true := by decide +kernel
set_option maxRecDepth 65536 in
theorem w_named : about1.methodNamed? x = some theMethod := by decide +kernel
set_option maxRecDepth 65536 in
theorem w_hears : about1.hears theMethod below0 = true := by decide +kernel
set_option maxRecDepth 65536 in
theorem w_ripe : about1.ripe theMethod args0 below0 = true := by decide +kernel
theorem w_running : about1.status = .running := rfl
set_option maxRecDepth 65536 in
theorem w_room : about1.hasRoom e0.platform room_1 = true :=
  launch0.hasRoom_least _ room_1 (by decide +kernel) (by decide +kernel) (by decide +kernel) (by decide +kernel) (by decide +kernel) (by decide +kernel)
theorem allAtoms_all (ts : List Jvm.Cond) (a : Array Jvm.Value) (st : Jvm.State) : (allAtoms ts).before a st = ts.all (fun c => c.before a st) := by
  induction ts with
  | nil => rfl
  | cons c t ih =>
    show (Jvm.Cond.and c (allAtoms t)).before a st = _
    rw [Jvm.Cond.before_and, ih, List.all_cons]
def words1 : List Jvm.Cond := Jvm.Cond.code x code maxLocals ret :: tables_1
/-- a 'code' word, met by the world's own term for the bytes: nothing is compared byte by byte -/
theorem code_word {y : MethodName} {bytes : ByteArray} {mx : Nat} {rt : Option FieldType} {a : Array Value} {s : State} {m : MethodId} {meth : Method} {c : Code} (h1 : s.methodNamed? y = some m) (h2 : s.vm.method? m = some meth) (h3 : meth.code = some c) (h4 : c.code = bytes)
    (h5 : (c.maxLocals == mx && c.exceptionTable.isEmpty && decide (c.maxStack ≤ mostOperands) && decide (meth.sig.returnType = rt) && !meth.locks && decide (parseMethodDescriptor y.desc = some meth.sig)) = true) : (Jvm.Cond.code y bytes mx rt).before a s = true := by
  simp only [Bool.and_eq_true, beq_iff_eq, Bool.not_eq_true', decide_eq_true_eq] at h5
  obtain ⟨⟨⟨⟨⟨g1, g2⟩, g3⟩, g4⟩, g5⟩, g6⟩ := h5
  simp [Cond.before, Cond.holds, Cond.value, h1, h2, h3, h4, g1, g2, g3, g4, g5, g6]
def isCode : Jvm.Cond → Bool
  | .code _ _ _ _ => true
  | _ => false
theorem all_split {L : List Jvm.Cond} {P : Jvm.Cond → Bool} (h1 : L.all (fun c => isCode c || P c) = true) (h2 : ∀ c ∈ L.filter isCode, P c = true) : L.all P = true := by
  refine List.all_eq_true.mpr fun c hc => ?_
  have h := List.all_eq_true.mp h1 c hc
  rcases Bool.eq_false_or_eq_true (isCode c) with hi | hi
  · exact h2 c (List.mem_filter.mpr ⟨hc, hi⟩)
  · simpa [hi] using h
set_option maxRecDepth 65536 in
theorem w_c0 : (Jvm.Cond.code x code maxLocals ret).before args0 about1 = true := code_word (m := ⟨1, 3⟩) (meth := k1m3) (c := k1c3) (by decide +kernel) rfl rfl rfl (by decide +kernel)
set_option maxRecDepth 65536 in
theorem w_c1 : (Jvm.Cond.code ({ cls := "com/example/beanloft/beanloft/naming/GlobalNameInApplicationPinLaw", name := "seg", desc := "(I)C" } : Jvm.MethodName) method_2_code (2 : Nat) (Option.some Jvm.ClassFile.FieldType.char)).before args0 about1 = true := code_word (m := ⟨1, 1⟩) (meth := k1m1) (c := k1c1) (by decide +kernel) rfl rfl rfl (by decide +kernel)
set_option maxRecDepth 65536 in
theorem w_c2 : (Jvm.Cond.code ({ cls := "java/lang/String", name := "valueOf", desc := "(C)Ljava/lang/String;" } : Jvm.MethodName) jdk_42_method_139_code (1 : Nat) (Option.some (Jvm.ClassFile.FieldType.object "java/lang/String"))).before args0 about1 = true := code_word (m := ⟨7, 9⟩) (meth := k7m9) (c := k7c9) (by decide +kernel) rfl rfl rfl (by decide +kernel)
set_option maxRecDepth 65536 in
theorem w_c3 : (Jvm.Cond.code ({ cls := "java/lang/StringLatin1", name := "canEncode", desc := "(C)Z" } : Jvm.MethodName) jdk_43_method_3_code (1 : Nat) (Option.some Jvm.ClassFile.FieldType.boolean)).before args0 about1 = true := code_word (m := ⟨8, 2⟩) (meth := k8m2) (c := k8c2) (by decide +kernel) rfl rfl rfl (by decide +kernel)
set_option maxRecDepth 65536 in
theorem w_c4 : (Jvm.Cond.code ({ cls := "java/lang/StringLatin1", name := "toBytes", desc := "(C)[B" } : Jvm.MethodName) jdk_43_method_46_code (1 : Nat) (Option.some (Jvm.ClassFile.FieldType.array Jvm.ClassFile.FieldType.byte))).before args0 about1 = true := code_word (m := ⟨8, 5⟩) (meth := k8m5) (c := k8c5) (by decide +kernel) rfl rfl rfl (by decide +kernel)
set_option maxRecDepth 65536 in
theorem w_c5 : (Jvm.Cond.code ({ cls := "java/lang/String", name := "<init>", desc := "([BB)V" } : Jvm.MethodName) jdk_42_method_151_code (3 : Nat) (Option.none : Option Jvm.ClassFile.FieldType)).before args0 about1 = true := code_word (m := ⟨7, 13⟩) (meth := k7m13) (c := k7c13) (by decide +kernel) rfl rfl rfl (by decide +kernel)
set_option maxRecDepth 65536 in
theorem w_c6 : (Jvm.Cond.code ({ cls := "java/lang/Object", name := "<init>", desc := "()V" } : Jvm.MethodName) object_method_1_code (1 : Nat) (Option.none : Option Jvm.ClassFile.FieldType)).before args0 about1 = true := code_word (m := ⟨0, 0⟩) (meth := k0m0) (c := k0c0) (by decide +kernel) rfl rfl rfl (by decide +kernel)
set_option maxRecDepth 65536 in
theorem w_c7 : (Jvm.Cond.code ({ cls := "com/example/beanloft/beanloft/naming/GlobalName", name := "<init>", desc := "(Ljava/lang/String;Ljava/lang/String;Ljava/lang/String;Ljava/lang/String;)V" } : Jvm.MethodName) prog_9_method_1_code (5 : Nat) (Option.none : Option Jvm.ClassFile.FieldType)).before args0 about1 = true := code_word (m := ⟨10, 0⟩) (meth := k10m0) (c := k10c0) (by decide +kernel) rfl rfl rfl (by decide +kernel)
set_option maxRecDepth 65536 in
theorem w_c8 : (Jvm.Cond.code ({ cls := "java/lang/Record", name := "<init>", desc := "()V" } : Jvm.MethodName) jdk_30_method_1_code (1 : Nat) (Option.none : Option Jvm.ClassFile.FieldType)).before args0 about1 = true := code_word (m := ⟨9, 0⟩) (meth := k9m0) (c := k9c0) (by decide +kernel) rfl rfl rfl (by decide +kernel)
set_option maxRecDepth 65536 in
theorem w_c9 : (Jvm.Cond.code ({ cls := "java/util/Objects", name := "requireNonNull", desc := "(Ljava/lang/Object;Ljava/lang/String;)Ljava/lang/Object;" } : Jvm.MethodName) jdk_31_method_11_code (2 : Nat) (Option.some (Jvm.ClassFile.FieldType.object "java/lang/Object"))).before args0 about1 = true := code_word (m := ⟨11, 1⟩) (meth := k11m1) (c := k11c1) (by decide +kernel) rfl rfl rfl (by decide +kernel)
set_option maxRecDepth 65536 in
theorem w_c10 : (Jvm.Cond.code ({ cls := "com/example/beanloft/beanloft/naming/GlobalName", name := "checkSegment", desc := "(Ljava/lang/String;Ljava/lang/String;Ljava/lang/String;Ljava/lang/String;)V" } : Jvm.MethodName) prog_9_method_9_code (4 : Nat) (Option.none : Option Jvm.ClassFile.FieldType)).before args0 about1 = true := code_word (m := ⟨10, 3⟩) (meth := k10m3) (c := k10c3) (by decide +kernel) rfl rfl rfl (by decide +kernel)
set_option maxRecDepth 65536 in
theorem w_c11 : (Jvm.Cond.code ({ cls := "java/lang/String", name := "isEmpty", desc := "()Z" } : Jvm.MethodName) jdk_42_method_55_code (1 : Nat) (Option.some Jvm.ClassFile.FieldType.boolean)).before args0 about1 = true := code_word (m := ⟨7, 4⟩) (meth := k7m4) (c := k7c4) (by decide +kernel) rfl rfl rfl (by decide +kernel)
set_option maxRecDepth 65536 in
theorem w_c12 : (Jvm.Cond.code ({ cls := "java/lang/String", name := "contains", desc := "(Ljava/lang/CharSequence;)Z" } : Jvm.MethodName) jdk_42_method_97_code (2 : Nat) (Option.some Jvm.ClassFile.FieldType.boolean)).before args0 about1 = true := code_word (m := ⟨7, 7⟩) (meth := k7m7) (c := k7c7) (by decide +kernel) rfl rfl rfl (by decide +kernel)
set_option maxRecDepth 65536 in
theorem w_c13 : (Jvm.Cond.code ({ cls := "java/lang/String", name := "toString", desc := "()Ljava/lang/String;" } : Jvm.MethodName) jdk_42_method_126_code (1 : Nat) (Option.some (Jvm.ClassFile.FieldType.object "java/lang/String"))).before args0 about1 = true := code_word (m := ⟨7, 8⟩) (meth := k7m8) (c := k7c8) (by decide +kernel) rfl rfl rfl (by decide +kernel)
set_option maxRecDepth 65536 in
theorem w_c14 : (Jvm.Cond.code ({ cls := "java/lang/String", name := "indexOf", desc := "(Ljava/lang/String;)I" } : Jvm.MethodName) jdk_42_method_84_code (3 : Nat) (Option.some Jvm.ClassFile.FieldType.int)).before args0 about1 = true := code_word (m := ⟨7, 6⟩) (meth := k7m6) (c := k7c6) (by decide +kernel) rfl rfl rfl (by decide +kernel)
set_option maxRecDepth 65536 in
theorem w_c15 : (Jvm.Cond.code ({ cls := "java/lang/String", name := "coder", desc := "()B" } : Jvm.MethodName) jdk_42_method_152_code (1 : Nat) (Option.some Jvm.ClassFile.FieldType.byte)).before args0 about1 = true := code_word (m := ⟨7, 14⟩) (meth := k7m14) (c := k7c14) (by decide +kernel) rfl rfl rfl (by decide +kernel)
set_option maxRecDepth 65536 in
theorem w_c16 : (Jvm.Cond.code ({ cls := "java/lang/String", name := "isLatin1", desc := "()Z" } : Jvm.MethodName) jdk_42_method_154_code (1 : Nat) (Option.some Jvm.ClassFile.FieldType.boolean)).before args0 about1 = true := code_word (m := ⟨7, 15⟩) (meth := k7m15) (c := k7c15) (by decide +kernel) rfl rfl rfl (by decide +kernel)
set_option maxRecDepth 65536 in
theorem w_c17 : (Jvm.Cond.code ({ cls := "java/lang/StringLatin1", name := "indexOf", desc := "([B[B)I" } : Jvm.MethodName) jdk_43_method_24_code (2 : Nat) (Option.some Jvm.ClassFile.FieldType.int)).before args0 about1 = true := code_word (m := ⟨8, 3⟩) (meth := k8m3) (c := k8c3) (by decide +kernel) rfl rfl rfl (by decide +kernel)
set_option maxRecDepth 65536 in
theorem w_c18 : (Jvm.Cond.code ({ cls := "java/lang/StringLatin1", name := "indexOf", desc := "([BI[BII)I" } : Jvm.MethodName) jdk_43_method_25_code (11 : Nat) (Option.some Jvm.ClassFile.FieldType.int)).before args0 about1 = true := code_word (m := ⟨8, 4⟩) (meth := k8m4) (c := k8c4) (by decide +kernel) rfl rfl rfl (by decide +kernel)
set_option maxRecDepth 65536 in
theorem w_c19 : (Jvm.Cond.code ({ cls := "com/example/beanloft/beanloft/naming/GlobalName", name := "inApplication", desc := "()Ljava/lang/String;" } : Jvm.MethodName) prog_9_method_5_code (1 : Nat) (Option.some (Jvm.ClassFile.FieldType.object "java/lang/String"))).before args0 about1 = true := code_word (m := ⟨10, 1⟩) (meth := k10m1) (c := k10c1) (by decide +kernel) rfl rfl rfl (by decide +kernel)
set_option maxRecDepth 65536 in
theorem w_c20 : (Jvm.Cond.code ({ cls := "java/lang/StringBuilder", name := "<init>", desc := "()V" } : Jvm.MethodName) jdk_67_method_1_code (1 : Nat) (Option.none : Option Jvm.ClassFile.FieldType)).before args0 about1 = true := code_word (m := ⟨14, 0⟩) (meth := k14m0) (c := k14c0) (by decide +kernel) rfl rfl rfl (by decide +kernel)
set_option maxRecDepth 65536 in
theorem w_c21 : (Jvm.Cond.code ({ cls := "java/lang/AbstractStringBuilder", name := "<init>", desc := "(I)V" } : Jvm.MethodName) jdk_68_method_2_code (2 : Nat) (Option.none : Option Jvm.ClassFile.FieldType)).before args0 about1 = true := code_word (m := ⟨13, 1⟩) (meth := k13m1) (c := k13c1) (by decide +kernel) rfl rfl rfl (by decide +kernel)
set_option maxRecDepth 65536 in
theorem w_c22 : (Jvm.Cond.code ({ cls := "java/lang/StringBuilder", name := "append", desc := "(Ljava/lang/String;)Ljava/lang/StringBuilder;" } : Jvm.MethodName) jdk_67_method_7_code (2 : Nat) (Option.some (Jvm.ClassFile.FieldType.object "java/lang/StringBuilder"))).before args0 about1 = true := code_word (m := ⟨14, 1⟩) (meth := k14m1) (c := k14c1) (by decide +kernel) rfl rfl rfl (by decide +kernel)
set_option maxRecDepth 65536 in
theorem w_c23 : (Jvm.Cond.code ({ cls := "java/lang/AbstractStringBuilder", name := "append", desc := "(Ljava/lang/String;)Ljava/lang/AbstractStringBuilder;" } : Jvm.MethodName) jdk_68_method_22_code (3 : Nat) (Option.some (Jvm.ClassFile.FieldType.object "java/lang/AbstractStringBuilder"))).before args0 about1 = true := code_word (m := ⟨13, 5⟩) (meth := k13m5) (c := k13c5) (by decide +kernel) rfl rfl rfl (by decide +kernel)
set_option maxRecDepth 65536 in
theorem w_c24 : (Jvm.Cond.code ({ cls := "java/lang/String", name := "length", desc := "()I" } : Jvm.MethodName) jdk_42_method_54_code (1 : Nat) (Option.some Jvm.ClassFile.FieldType.int)).before args0 about1 = true := code_word (m := ⟨7, 3⟩) (meth := k7m3) (c := k7c3) (by decide +kernel) rfl rfl rfl (by decide +kernel)
set_option maxRecDepth 65536 in
theorem w_c25 : (Jvm.Cond.code ({ cls := "java/lang/AbstractStringBuilder", name := "ensureCapacityInternal", desc := "(I)V" } : Jvm.MethodName) jdk_68_method_9_code (3 : Nat) (Option.none : Option Jvm.ClassFile.FieldType)).before args0 about1 = true := code_word (m := ⟨13, 3⟩) (meth := k13m3) (c := k13c3) (by decide +kernel) rfl rfl rfl (by decide +kernel)
set_option maxRecDepth 65536 in
theorem w_c26 : (Jvm.Cond.code ({ cls := "java/lang/AbstractStringBuilder", name := "putStringAt", desc := "(ILjava/lang/String;)V" } : Jvm.MethodName) jdk_68_method_73_code (3 : Nat) (Option.none : Option Jvm.ClassFile.FieldType)).before args0 about1 = true := code_word (m := ⟨13, 9⟩) (meth := k13m9) (c := k13c9) (by decide +kernel) rfl rfl rfl (by decide +kernel)
set_option maxRecDepth 65536 in
theorem w_c27 : (Jvm.Cond.code ({ cls := "java/lang/AbstractStringBuilder", name := "inflateIfNeededFor", desc := "(Ljava/lang/String;)V" } : Jvm.MethodName) jdk_68_method_71_code (2 : Nat) (Option.none : Option Jvm.ClassFile.FieldType)).before args0 about1 = true := code_word (m := ⟨13, 8⟩) (meth := k13m8) (c := k13c8) (by decide +kernel) rfl rfl rfl (by decide +kernel)
set_option maxRecDepth 65536 in
theorem w_c28 : (Jvm.Cond.code ({ cls := "java/lang/String", name := "getBytes", desc := "([BIB)V" } : Jvm.MethodName) jdk_42_method_147_code (4 : Nat) (Option.none : Option Jvm.ClassFile.FieldType)).before args0 about1 = true := code_word (m := ⟨7, 10⟩) (meth := k7m10) (c := k7c10) (by decide +kernel) rfl rfl rfl (by decide +kernel)
set_option maxRecDepth 65536 in
theorem w_c29 : (Jvm.Cond.code ({ cls := "com/example/beanloft/beanloft/naming/GlobalName", name := "viewSuffix", desc := "()Ljava/lang/String;" } : Jvm.MethodName) prog_9_method_8_code (1 : Nat) (Option.some (Jvm.ClassFile.FieldType.object "java/lang/String"))).before args0 about1 = true := code_word (m := ⟨10, 2⟩) (meth := k10m2) (c := k10c2) (by decide +kernel) rfl rfl rfl (by decide +kernel)
set_option maxRecDepth 65536 in
theorem w_c30 : (Jvm.Cond.code ({ cls := "java/lang/StringBuilder", name := "toString", desc := "()Ljava/lang/String;" } : Jvm.MethodName) jdk_67_method_42_code (1 : Nat) (Option.some (Jvm.ClassFile.FieldType.object "java/lang/String"))).before args0 about1 = true := code_word (m := ⟨14, 2⟩) (meth := k14m2) (c := k14c2) (by decide +kernel) rfl rfl rfl (by decide +kernel)
set_option maxRecDepth 65536 in
theorem w_c31 : (Jvm.Cond.code ({ cls := "java/lang/String", name := "<init>", desc := "(Ljava/lang/StringBuilder;)V" } : Jvm.MethodName) jdk_42_method_53_code (2 : Nat) (Option.none : Option Jvm.ClassFile.FieldType)).before args0 about1 = true := code_word (m := ⟨7, 2⟩) (meth := k7m2) (c := k7c2) (by decide +kernel) rfl rfl rfl (by decide +kernel)
set_option maxRecDepth 65536 in
theorem w_c32 : (Jvm.Cond.code ({ cls := "java/lang/String", name := "<init>", desc := "(Ljava/lang/AbstractStringBuilder;Ljava/lang/Void;)V" } : Jvm.MethodName) jdk_42_method_150_code (5 : Nat) (Option.none : Option Jvm.ClassFile.FieldType)).before args0 about1 = true := code_word (m := ⟨7, 12⟩) (meth := k7m12) (c := k7c12) (by decide +kernel) rfl rfl rfl (by decide +kernel)
set_option maxRecDepth 65536 in
theorem w_c33 : (Jvm.Cond.code ({ cls := "java/lang/AbstractStringBuilder", name := "getValue", desc := "()[B" } : Jvm.MethodName) jdk_68_method_64_code (1 : Nat) (Option.some (Jvm.ClassFile.FieldType.array Jvm.ClassFile.FieldType.byte))).before args0 about1 = true := code_word (m := ⟨13, 6⟩) (meth := k13m6) (c := k13c6) (by decide +kernel) rfl rfl rfl (by decide +kernel)
set_option maxRecDepth 65536 in
theorem w_c34 : (Jvm.Cond.code ({ cls := "java/lang/StringBuilder", name := "length", desc := "()I" } : Jvm.MethodName) jdk_67_method_93_code (1 : Nat) (Option.some Jvm.ClassFile.FieldType.int)).before args0 about1 = true := code_word (m := ⟨14, 3⟩) (meth := k14m3) (c := k14c3) (by decide +kernel) rfl rfl rfl (by decide +kernel)
set_option maxRecDepth 65536 in
theorem w_c35 : (Jvm.Cond.code ({ cls := "java/lang/AbstractStringBuilder", name := "length", desc := "()I" } : Jvm.MethodName) jdk_68_method_6_code (1 : Nat) (Option.some Jvm.ClassFile.FieldType.int)).before args0 about1 = true := code_word (m := ⟨13, 2⟩) (meth := k13m2) (c := k13c2) (by decide +kernel) rfl rfl rfl (by decide +kernel)
set_option maxRecDepth 65536 in
theorem w_c36 : (Jvm.Cond.code ({ cls := "java/lang/AbstractStringBuilder", name := "isLatin1", desc := "()Z" } : Jvm.MethodName) jdk_68_method_68_code (1 : Nat) (Option.some Jvm.ClassFile.FieldType.boolean)).before args0 about1 = true := code_word (m := ⟨13, 7⟩) (meth := k13m7) (c := k13c7) (by decide +kernel) rfl rfl rfl (by decide +kernel)
set_option maxRecDepth 65536 in
theorem w_c37 : (Jvm.Cond.code ({ cls := "java/util/Arrays", name := "copyOfRange", desc := "([BII)[B" } : Jvm.MethodName) jdk_65_method_132_code (3 : Nat) (Option.some (Jvm.ClassFile.FieldType.array Jvm.ClassFile.FieldType.byte))).before args0 about1 = true := code_word (m := ⟨16, 3⟩) (meth := k16m3) (c := k16c3) (by decide +kernel) rfl rfl rfl (by decide +kernel)
set_option maxRecDepth 65536 in
theorem w_c38 : (Jvm.Cond.code ({ cls := "java/util/Arrays", name := "copyOfRangeByte", desc := "([BII)[B" } : Jvm.MethodName) jdk_65_method_133_code (5 : Nat) (Option.some (Jvm.ClassFile.FieldType.array Jvm.ClassFile.FieldType.byte))).before args0 about1 = true := code_word (m := ⟨16, 4⟩) (meth := k16m4) (c := k16c4) (by decide +kernel) rfl rfl rfl (by decide +kernel)
set_option maxRecDepth 65536 in
theorem w_c39 : (Jvm.Cond.code ({ cls := "java/util/Arrays", name := "checkLength", desc := "(II)V" } : Jvm.MethodName) jdk_65_method_131_code (2 : Nat) (Option.none : Option Jvm.ClassFile.FieldType)).before args0 about1 = true := code_word (m := ⟨16, 2⟩) (meth := k16m2) (c := k16c2) (by decide +kernel) rfl rfl rfl (by decide +kernel)
set_option maxRecDepth 65536 in
theorem w_c40 : (Jvm.Cond.code ({ cls := "java/lang/Math", name := "min", desc := "(II)I" } : Jvm.MethodName) jdk_29_method_69_code (2 : Nat) (Option.some Jvm.ClassFile.FieldType.int)).before args0 about1 = true := code_word (m := ⟨17, 2⟩) (meth := k17m2) (c := k17c2) (by decide +kernel) rfl rfl rfl (by decide +kernel)
set_option maxRecDepth 65536 in
theorem w_c41 : (Jvm.Cond.code ({ cls := "com/example/beanloft/beanloft/naming/GlobalNameInApplicationPinLaw", name := "prefixOk", desc := "(Ljava/lang/String;)Z" } : Jvm.MethodName) method_3_code (1 : Nat) (Option.some Jvm.ClassFile.FieldType.boolean)).before args0 about1 = true := code_word (m := ⟨1, 2⟩) (meth := k1m2) (c := k1c2) (by decide +kernel) rfl rfl rfl (by decide +kernel)
set_option maxRecDepth 65536 in
theorem w_c42 : (Jvm.Cond.code ({ cls := "java/lang/String", name := "charAt", desc := "(I)C" } : Jvm.MethodName) jdk_42_method_56_code (2 : Nat) (Option.some Jvm.ClassFile.FieldType.char)).before args0 about1 = true := code_word (m := ⟨7, 5⟩) (meth := k7m5) (c := k7c5) (by decide +kernel) rfl rfl rfl (by decide +kernel)
set_option maxRecDepth 65536 in
theorem w_c43 : (Jvm.Cond.code ({ cls := "java/lang/StringLatin1", name := "charAt", desc := "([BI)C" } : Jvm.MethodName) jdk_43_method_2_code (2 : Nat) (Option.some Jvm.ClassFile.FieldType.char)).before args0 about1 = true := code_word (m := ⟨8, 1⟩) (meth := k8m1) (c := k8c1) (by decide +kernel) rfl rfl rfl (by decide +kernel)
set_option maxRecDepth 65536 in
theorem w_c44 : (Jvm.Cond.code ({ cls := "java/lang/String", name := "checkIndex", desc := "(II)V" } : Jvm.MethodName) jdk_42_method_155_code (2 : Nat) (Option.none : Option Jvm.ClassFile.FieldType)).before args0 about1 = true := code_word (m := ⟨7, 16⟩) (meth := k7m16) (c := k7c16) (by decide +kernel) rfl rfl rfl (by decide +kernel)
set_option maxRecDepth 65536 in
theorem w_c45 : (Jvm.Cond.code ({ cls := "jdk/internal/util/Preconditions", name := "checkIndex", desc := "(IILjava/util/function/BiFunction;)I" } : Jvm.MethodName) jdk_41_method_11_code (3 : Nat) (Option.some Jvm.ClassFile.FieldType.int)).before args0 about1 = true := code_word (m := ⟨18, 1⟩) (meth := k18m1) (c := k18c1) (by decide +kernel) rfl rfl rfl (by decide +kernel)
set_option maxRecDepth 65536 in
theorem w_c46 : (Jvm.Cond.code ({ cls := "java/lang/String", name := "<init>", desc := "([C)V" } : Jvm.MethodName) jdk_42_method_3_code (2 : Nat) (Option.none : Option Jvm.ClassFile.FieldType)).before args0 about1 = true := code_word (m := ⟨7, 1⟩) (meth := k7m1) (c := k7c1) (by decide +kernel) rfl rfl rfl (by decide +kernel)
set_option maxRecDepth 65536 in
theorem w_c47 : (Jvm.Cond.code ({ cls := "java/lang/String", name := "<init>", desc := "([CIILjava/lang/Void;)V" } : Jvm.MethodName) jdk_42_method_149_code (6 : Nat) (Option.none : Option Jvm.ClassFile.FieldType)).before args0 about1 = true := code_word (m := ⟨7, 11⟩) (meth := k7m11) (c := k7c11) (by decide +kernel) rfl rfl rfl (by decide +kernel)
set_option maxRecDepth 65536 in
theorem w_c48 : (Jvm.Cond.code ({ cls := "java/lang/StringUTF16", name := "compress", desc := "([CII)[B" } : Jvm.MethodName) jdk_52_method_16_code (6 : Nat) (Option.some (Jvm.ClassFile.FieldType.array Jvm.ClassFile.FieldType.byte))).before args0 about1 = true := code_word (m := ⟨19, 2⟩) (meth := k19m2) (c := k19c2) (by decide +kernel) rfl rfl rfl (by decide +kernel)
set_option maxRecDepth 65536 in
theorem w_c49 : (Jvm.Cond.code ({ cls := "java/lang/StringUTF16", name := "compress", desc := "([CI[BII)I" } : Jvm.MethodName) jdk_52_method_21_code (7 : Nat) (Option.some Jvm.ClassFile.FieldType.int)).before args0 about1 = true := code_word (m := ⟨19, 3⟩) (meth := k19m3) (c := k19c3) (by decide +kernel) rfl rfl rfl (by decide +kernel)
set_option maxRecDepth 65536 in
theorem w_c50 : (Jvm.Cond.code ({ cls := "java/lang/StringUTF16", name := "coderFromArrayLen", desc := "([BI)B" } : Jvm.MethodName) jdk_52_method_15_code (2 : Nat) (Option.some Jvm.ClassFile.FieldType.byte)).before args0 about1 = true := code_word (m := ⟨19, 1⟩) (meth := k19m1) (c := k19c1) (by decide +kernel) rfl rfl rfl (by decide +kernel)
set_option maxRecDepth 65536 in
theorem w_c51 : (Jvm.Cond.code ({ cls := "java/lang/AbstractStringBuilder", name := "newCapacity", desc := "(I)I" } : Jvm.MethodName) jdk_68_method_10_code (6 : Nat) (Option.some Jvm.ClassFile.FieldType.int)).before args0 about1 = true := code_word (m := ⟨13, 4⟩) (meth := k13m4) (c := k13c4) (by decide +kernel) rfl rfl rfl (by decide +kernel)
set_option maxRecDepth 65536 in
theorem w_c52 : (Jvm.Cond.code ({ cls := "jdk/internal/util/ArraysSupport", name := "newLength", desc := "(III)I" } : Jvm.MethodName) jdk_48_method_27_code (4 : Nat) (Option.some Jvm.ClassFile.FieldType.int)).before args0 about1 = true := code_word (m := ⟨21, 1⟩) (meth := k21m1) (c := k21c1) (by decide +kernel) rfl rfl rfl (by decide +kernel)
set_option maxRecDepth 65536 in
theorem w_c53 : (Jvm.Cond.code ({ cls := "java/lang/Math", name := "max", desc := "(II)I" } : Jvm.MethodName) jdk_29_method_65_code (2 : Nat) (Option.some Jvm.ClassFile.FieldType.int)).before args0 about1 = true := code_word (m := ⟨17, 1⟩) (meth := k17m1) (c := k17c1) (by decide +kernel) rfl rfl rfl (by decide +kernel)
set_option maxRecDepth 65536 in
theorem w_c54 : (Jvm.Cond.code ({ cls := "java/util/Arrays", name := "copyOf", desc := "([BI)[B" } : Jvm.MethodName) jdk_65_method_121_code (3 : Nat) (Option.some (Jvm.ClassFile.FieldType.array Jvm.ClassFile.FieldType.byte))).before args0 about1 = true := code_word (m := ⟨16, 1⟩) (meth := k16m1) (c := k16c1) (by decide +kernel) rfl rfl rfl (by decide +kernel)
def codes1 : List Jvm.Cond := [Jvm.Cond.code x code maxLocals ret, Jvm.Cond.code ({ cls := "com/example/beanloft/beanloft/naming/GlobalNameInApplicationPinLaw", name := "seg", desc := "(I)C" } : Jvm.MethodName) method_2_code (2 : Nat) (Option.some Jvm.ClassFile.FieldType.char), Jvm.Cond.code ({ cls := "java/lang/String", name := "valueOf", desc := "(C)Ljava/lang/String;" } : Jvm.MethodName) jdk_42_method_139_code (1 : Nat) (Option.some (Jvm.ClassFile.FieldType.object "java/lang/String")), Jvm.Cond.code ({ cls := "java/lang/StringLatin1", name := "canEncode", desc := "(C)Z" } : Jvm.MethodName) jdk_43_method_3_code (1 : Nat) (Option.some Jvm.ClassFile.FieldType.boolean), Jvm.Cond.code ({ cls := "java/lang/StringLatin1", name := "toBytes", desc := "(C)[B" } : Jvm.MethodName) jdk_43_method_46_code (1 : Nat) (Option.some (Jvm.ClassFile.FieldType.array Jvm.ClassFile.FieldType.byte)), Jvm.Cond.code ({ cls := "java/lang/String", name := "<init>", desc := "([BB)V" } : Jvm.MethodName) jdk_42_method_151_code (3 : Nat) (Option.none : Option Jvm.ClassFile.FieldType), Jvm.Cond.code ({ cls := "java/lang/Object", name := "<init>", desc := "()V" } : Jvm.MethodName) object_method_1_code (1 : Nat) (Option.none : Option Jvm.ClassFile.FieldType), Jvm.Cond.code ({ cls := "com/example/beanloft/beanloft/naming/GlobalName", name := "<init>", desc := "(Ljava/lang/String;Ljava/lang/String;Ljava/lang/String;Ljava/lang/String;)V" } : Jvm.MethodName) prog_9_method_1_code (5 : Nat) (Option.none : Option Jvm.ClassFile.FieldType), Jvm.Cond.code ({ cls := "java/lang/Record", name := "<init>", desc := "()V" } : Jvm.MethodName) jdk_30_method_1_code (1 : Nat) (Option.none : Option Jvm.ClassFile.FieldType), Jvm.Cond.code ({ cls := "java/util/Objects", name := "requireNonNull", desc := "(Ljava/lang/Object;Ljava/lang/String;)Ljava/lang/Object;" } : Jvm.MethodName) jdk_31_method_11_code (2 : Nat) (Option.some (Jvm.ClassFile.FieldType.object "java/lang/Object")), Jvm.Cond.code ({ cls := "com/example/beanloft/beanloft/naming/GlobalName", name := "checkSegment", desc := "(Ljava/lang/String;Ljava/lang/String;Ljava/lang/String;Ljava/lang/String;)V" } : Jvm.MethodName) prog_9_method_9_code (4 : Nat) (Option.none : Option Jvm.ClassFile.FieldType), Jvm.Cond.code ({ cls := "java/lang/String", name := "isEmpty", desc := "()Z" } : Jvm.MethodName) jdk_42_method_55_code (1 : Nat) (Option.some Jvm.ClassFile.FieldType.boolean), Jvm.Cond.code ({ cls := "java/lang/String", name := "contains", desc := "(Ljava/lang/CharSequence;)Z" } : Jvm.MethodName) jdk_42_method_97_code (2 : Nat) (Option.some Jvm.ClassFile.FieldType.boolean), Jvm.Cond.code ({ cls := "java/lang/String", name := "toString", desc := "()Ljava/lang/String;" } : Jvm.MethodName) jdk_42_method_126_code (1 : Nat) (Option.some (Jvm.ClassFile.FieldType.object "java/lang/String")), Jvm.Cond.code ({ cls := "java/lang/String", name := "indexOf", desc := "(Ljava/lang/String;)I" } : Jvm.MethodName) jdk_42_method_84_code (3 : Nat) (Option.some Jvm.ClassFile.FieldType.int), Jvm.Cond.code ({ cls := "java/lang/String", name := "coder", desc := "()B" } : Jvm.MethodName) jdk_42_method_152_code (1 : Nat) (Option.some Jvm.ClassFile.FieldType.byte), Jvm.Cond.code ({ cls := "java/lang/String", name := "isLatin1", desc := "()Z" } : Jvm.MethodName) jdk_42_method_154_code (1 : Nat) (Option.some Jvm.ClassFile.FieldType.boolean), Jvm.Cond.code ({ cls := "java/lang/StringLatin1", name := "indexOf", desc := "([B[B)I" } : Jvm.MethodName) jdk_43_method_24_code (2 : Nat) (Option.some Jvm.ClassFile.FieldType.int), Jvm.Cond.code ({ cls := "java/lang/StringLatin1", name := "indexOf", desc := "([BI[BII)I" } : Jvm.MethodName) jdk_43_method_25_code (11 : Nat) (Option.some Jvm.ClassFile.FieldType.int), Jvm.Cond.code ({ cls := "com/example/beanloft/beanloft/naming/GlobalName", name := "inApplication", desc := "()Ljava/lang/String;" } : Jvm.MethodName) prog_9_method_5_code (1 : Nat) (Option.some (Jvm.ClassFile.FieldType.object "java/lang/String")), Jvm.Cond.code ({ cls := "java/lang/StringBuilder", name := "<init>", desc := "()V" } : Jvm.MethodName) jdk_67_method_1_code (1 : Nat) (Option.none : Option Jvm.ClassFile.FieldType), Jvm.Cond.code ({ cls := "java/lang/AbstractStringBuilder", name := "<init>", desc := "(I)V" } : Jvm.MethodName) jdk_68_method_2_code (2 : Nat) (Option.none : Option Jvm.ClassFile.FieldType), Jvm.Cond.code ({ cls := "java/lang/StringBuilder", name := "append", desc := "(Ljava/lang/String;)Ljava/lang/StringBuilder;" } : Jvm.MethodName) jdk_67_method_7_code (2 : Nat) (Option.some (Jvm.ClassFile.FieldType.object "java/lang/StringBuilder")), Jvm.Cond.code ({ cls := "java/lang/AbstractStringBuilder", name := "append", desc := "(Ljava/lang/String;)Ljava/lang/AbstractStringBuilder;" } : Jvm.MethodName) jdk_68_method_22_code (3 : Nat) (Option.some (Jvm.ClassFile.FieldType.object "java/lang/AbstractStringBuilder")), Jvm.Cond.code ({ cls := "java/lang/String", name := "length", desc := "()I" } : Jvm.MethodName) jdk_42_method_54_code (1 : Nat) (Option.some Jvm.ClassFile.FieldType.int), Jvm.Cond.code ({ cls := "java/lang/AbstractStringBuilder", name := "ensureCapacityInternal", desc := "(I)V" } : Jvm.MethodName) jdk_68_method_9_code (3 : Nat) (Option.none : Option Jvm.ClassFile.FieldType), Jvm.Cond.code ({ cls := "java/lang/AbstractStringBuilder", name := "putStringAt", desc := "(ILjava/lang/String;)V" } : Jvm.MethodName) jdk_68_method_73_code (3 : Nat) (Option.none : Option Jvm.ClassFile.FieldType), Jvm.Cond.code ({ cls := "java/lang/AbstractStringBuilder", name := "inflateIfNeededFor", desc := "(Ljava/lang/String;)V" } : Jvm.MethodName) jdk_68_method_71_code (2 : Nat) (Option.none : Option Jvm.ClassFile.FieldType), Jvm.Cond.code ({ cls := "java/lang/String", name := "getBytes", desc := "([BIB)V" } : Jvm.MethodName) jdk_42_method_147_code (4 : Nat) (Option.none : Option Jvm.ClassFile.FieldType), Jvm.Cond.code ({ cls := "com/example/beanloft/beanloft/naming/GlobalName", name := "viewSuffix", desc := "()Ljava/lang/String;" } : Jvm.MethodName) prog_9_method_8_code (1 : Nat) (Option.some (Jvm.ClassFile.FieldType.object "java/lang/String")), Jvm.Cond.code ({ cls := "java/lang/StringBuilder", name := "toString", desc := "()Ljava/lang/String;" } : Jvm.MethodName) jdk_67_method_42_code (1 : Nat) (Option.some (Jvm.ClassFile.FieldType.object "java/lang/String")), Jvm.Cond.code ({ cls := "java/lang/String", name := "<init>", desc := "(Ljava/lang/StringBuilder;)V" } : Jvm.MethodName) jdk_42_method_53_code (2 : Nat) (Option.none : Option Jvm.ClassFile.FieldType), Jvm.Cond.code ({ cls := "java/lang/String", name := "<init>", desc := "(Ljava/lang/AbstractStringBuilder;Ljava/lang/Void;)V" } : Jvm.MethodName) jdk_42_method_150_code (5 : Nat) (Option.none : Option Jvm.ClassFile.FieldType), Jvm.Cond.code ({ cls := "java/lang/AbstractStringBuilder", name := "getValue", desc := "()[B" } : Jvm.MethodName) jdk_68_method_64_code (1 : Nat) (Option.some (Jvm.ClassFile.FieldType.array Jvm.ClassFile.FieldType.byte)), Jvm.Cond.code ({ cls := "java/lang/StringBuilder", name := "length", desc := "()I" } : Jvm.MethodName) jdk_67_method_93_code (1 : Nat) (Option.some Jvm.ClassFile.FieldType.int), Jvm.Cond.code ({ cls := "java/lang/AbstractStringBuilder", name := "length", desc := "()I" } : Jvm.MethodName) jdk_68_method_6_code (1 : Nat) (Option.some Jvm.ClassFile.FieldType.int), Jvm.Cond.code ({ cls := "java/lang/AbstractStringBuilder", name := "isLatin1", desc := "()Z" } : Jvm.MethodName) jdk_68_method_68_code (1 : Nat) (Option.some Jvm.ClassFile.FieldType.boolean), Jvm.Cond.code ({ cls := "java/util/Arrays", name := "copyOfRange", desc := "([BII)[B" } : Jvm.MethodName) jdk_65_method_132_code (3 : Nat) (Option.some (Jvm.ClassFile.FieldType.array Jvm.ClassFile.FieldType.byte)), Jvm.Cond.code ({ cls := "java/util/Arrays", name := "copyOfRangeByte", desc := "([BII)[B" } : Jvm.MethodName) jdk_65_method_133_code (5 : Nat) (Option.some (Jvm.ClassFile.FieldType.array Jvm.ClassFile.FieldType.byte)), Jvm.Cond.code ({ cls := "java/util/Arrays", name := "checkLength", desc := "(II)V" } : Jvm.MethodName) jdk_65_method_131_code (2 : Nat) (Option.none : Option Jvm.ClassFile.FieldType), Jvm.Cond.code ({ cls := "java/lang/Math", name := "min", desc := "(II)I" } : Jvm.MethodName) jdk_29_method_69_code (2 : Nat) (Option.some Jvm.ClassFile.FieldType.int), Jvm.Cond.code ({ cls := "com/example/beanloft/beanloft/naming/GlobalNameInApplicationPinLaw", name := "prefixOk", desc := "(Ljava/lang/String;)Z" } : Jvm.MethodName) method_3_code (1 : Nat) (Option.some Jvm.ClassFile.FieldType.boolean), Jvm.Cond.code ({ cls := "java/lang/String", name := "charAt", desc := "(I)C" } : Jvm.MethodName) jdk_42_method_56_code (2 : Nat) (Option.some Jvm.ClassFile.FieldType.char), Jvm.Cond.code ({ cls := "java/lang/StringLatin1", name := "charAt", desc := "([BI)C" } : Jvm.MethodName) jdk_43_method_2_code (2 : Nat) (Option.some Jvm.ClassFile.FieldType.char), Jvm.Cond.code ({ cls := "java/lang/String", name := "checkIndex", desc := "(II)V" } : Jvm.MethodName) jdk_42_method_155_code (2 : Nat) (Option.none : Option Jvm.ClassFile.FieldType), Jvm.Cond.code ({ cls := "jdk/internal/util/Preconditions", name := "checkIndex", desc := "(IILjava/util/function/BiFunction;)I" } : Jvm.MethodName) jdk_41_method_11_code (3 : Nat) (Option.some Jvm.ClassFile.FieldType.int), Jvm.Cond.code ({ cls := "java/lang/String", name := "<init>", desc := "([C)V" } : Jvm.MethodName) jdk_42_method_3_code (2 : Nat) (Option.none : Option Jvm.ClassFile.FieldType), Jvm.Cond.code ({ cls := "java/lang/String", name := "<init>", desc := "([CIILjava/lang/Void;)V" } : Jvm.MethodName) jdk_42_method_149_code (6 : Nat) (Option.none : Option Jvm.ClassFile.FieldType), Jvm.Cond.code ({ cls := "java/lang/StringUTF16", name := "compress", desc := "([CII)[B" } : Jvm.MethodName) jdk_52_method_16_code (6 : Nat) (Option.some (Jvm.ClassFile.FieldType.array Jvm.ClassFile.FieldType.byte)), Jvm.Cond.code ({ cls := "java/lang/StringUTF16", name := "compress", desc := "([CI[BII)I" } : Jvm.MethodName) jdk_52_method_21_code (7 : Nat) (Option.some Jvm.ClassFile.FieldType.int), Jvm.Cond.code ({ cls := "java/lang/StringUTF16", name := "coderFromArrayLen", desc := "([BI)B" } : Jvm.MethodName) jdk_52_method_15_code (2 : Nat) (Option.some Jvm.ClassFile.FieldType.byte), Jvm.Cond.code ({ cls := "java/lang/AbstractStringBuilder", name := "newCapacity", desc := "(I)I" } : Jvm.MethodName) jdk_68_method_10_code (6 : Nat) (Option.some Jvm.ClassFile.FieldType.int), Jvm.Cond.code ({ cls := "jdk/internal/util/ArraysSupport", name := "newLength", desc := "(III)I" } : Jvm.MethodName) jdk_48_method_27_code (4 : Nat) (Option.some Jvm.ClassFile.FieldType.int), Jvm.Cond.code ({ cls := "java/lang/Math", name := "max", desc := "(II)I" } : Jvm.MethodName) jdk_29_method_65_code (2 : Nat) (Option.some Jvm.ClassFile.FieldType.int), Jvm.Cond.code ({ cls := "java/util/Arrays", name := "copyOf", desc := "([BI)[B" } : Jvm.MethodName) jdk_65_method_121_code (3 : Nat) (Option.some (Jvm.ClassFile.FieldType.array Jvm.ClassFile.FieldType.byte))]
set_option maxRecDepth 65536 in
theorem codes_eq : words1.filter isCode = codes1 := rfl
theorem w_codes : ∀ c ∈ words1.filter isCode, c.before args0 about1 = true := by
  rw [codes_eq]
  intro c hc
  simp only [codes1, List.mem_cons, List.not_mem_nil, or_false] at hc
  rcases hc with rfl | rfl | rfl | rfl | rfl | rfl | rfl | rfl | rfl | rfl | rfl | rfl | rfl | rfl | rfl | rfl | rfl | rfl | rfl | rfl | rfl | rfl | rfl | rfl | rfl | rfl | rfl | rfl | rfl | rfl | rfl | rfl | rfl | rfl | rfl | rfl | rfl | rfl | rfl | rfl | rfl | rfl | rfl | rfl | rfl | rfl | rfl | rfl | rfl | rfl | rfl | rfl | rfl | rfl | rfl
  · exact w_c0
  · exact w_c1
  · exact w_c2
  · exact w_c3
  · exact w_c4
  · exact w_c5
  · exact w_c6
  · exact w_c7
  · exact w_c8
  · exact w_c9
  · exact w_c10
  · exact w_c11
  · exact w_c12
  · exact w_c13
  · exact w_c14
  · exact w_c15
  · exact w_c16
  · exact w_c17
  · exact w_c18
  · exact w_c19
  · exact w_c20
  · exact w_c21
  · exact w_c22
  · exact w_c23
  · exact w_c24
  · exact w_c25
  · exact w_c26
  · exact w_c27
  · exact w_c28
  · exact w_c29
  · exact w_c30
  · exact w_c31
  · exact w_c32
  · exact w_c33
  · exact w_c34
  · exact w_c35
  · exact w_c36
  · exact w_c37
  · exact w_c38
  · exact w_c39
  · exact w_c40
  · exact w_c41
  · exact w_c42
  · exact w_c43
  · exact w_c44
  · exact w_c45
  · exact w_c46
  · exact w_c47
  · exact w_c48
  · exact w_c49
  · exact w_c50
  · exact w_c51
  · exact w_c52
  · exact w_c53
  · exact w_c54
set_option maxRecDepth 65536 in
theorem w_t1 : (words1.take 24).all (fun c => isCode c || c.before args0 about1) = true := by decide +kernel
set_option maxRecDepth 65536 in
theorem w_t2 : ((words1.drop 24).take 24).all (fun c => isCode c || c.before args0 about1) = true := by decide +kernel
set_option maxRecDepth 65536 in
theorem w_t3 : (((words1.drop 24).drop 24).take 24).all (fun c => isCode c || c.before args0 about1) = true := by decide +kernel
set_option maxRecDepth 65536 in
theorem w_t4 : ((((words1.drop 24).drop 24).drop 24).take 24).all (fun c => isCode c || c.before args0 about1) = true := by decide +kernel
set_option maxRecDepth 65536 in
theorem w_t5 : (((((words1.drop 24).drop 24).drop 24).drop 24).take 24).all (fun c => isCode c || c.before args0 about1) = true := by decide +kernel
set_option maxRecDepth 65536 in
theorem w_t6 : ((((((words1.drop 24).drop 24).drop 24).drop 24).drop 24).take 24).all (fun c => isCode c || c.before args0 about1) = true := by decide +kernel
set_option maxRecDepth 65536 in
theorem w_t7 : (((((((words1.drop 24).drop 24).drop 24).drop 24).drop 24).drop 24).take 24).all (fun c => isCode c || c.before args0 about1) = true := by decide +kernel
set_option maxRecDepth 65536 in
theorem w_t8 : ((((((((words1.drop 24).drop 24).drop 24).drop 24).drop 24).drop 24).drop 24).take 24).all (fun c => isCode c || c.before args0 about1) = true := by decide +kernel
set_option maxRecDepth 65536 in
theorem w_t9 : (((((((((words1.drop 24).drop 24).drop 24).drop 24).drop 24).drop 24).drop 24).drop 24).take 24).all (fun c => isCode c || c.before args0 about1) = true := by decide +kernel
set_option maxRecDepth 65536 in
theorem w_t10 : ((((((((((words1.drop 24).drop 24).drop 24).drop 24).drop 24).drop 24).drop 24).drop 24).drop 24).take 24).all (fun c => isCode c || c.before args0 about1) = true := by decide +kernel
set_option maxRecDepth 65536 in
theorem w_t11 : (((((((((((words1.drop 24).drop 24).drop 24).drop 24).drop 24).drop 24).drop 24).drop 24).drop 24).drop 24).take 24).all (fun c => isCode c || c.before args0 about1) = true := by decide +kernel
set_option maxRecDepth 65536 in
theorem w_t12 : (((((((((((words1.drop 24).drop 24).drop 24).drop 24).drop 24).drop 24).drop 24).drop 24).drop 24).drop 24).drop 24).all (fun c => isCode c || c.before args0 about1) = true := by decide +kernel
theorem w_tables : (allAtoms (Jvm.Cond.code x code maxLocals ret :: tables_1)).before args0 about1 = true := by
  rw [allAtoms_all]
  show words1.all (fun c => c.before args0 about1) = true
  refine all_split ?_ w_codes
  rw [← List.take_append_drop 24 words1, List.all_append, w_t1, ← List.take_append_drop 24 (words1.drop 24), List.all_append, w_t2, ← List.take_append_drop 24 ((words1.drop 24).drop 24), List.all_append, w_t3, ← List.take_append_drop 24 (((words1.drop 24).drop 24).drop 24), List.all_append, w_t4, ← List.take_append_drop 24 ((((words1.drop 24).drop 24).drop 24).drop 24), List.all_append, w_t5, ← List.take_append_drop 24 (((((words1.drop 24).drop 24).drop 24).drop 24).drop 24), List.all_append, w_t6, ← List.take_append_drop 24 ((((((words1.drop 24).drop 24).drop 24).drop 24).drop 24).drop 24), List.all_append, w_t7, ← List.take_append_drop 24 (((((((words1.drop 24).drop 24).drop 24).drop 24).drop 24).drop 24).drop 24), List.all_append, w_t8, ← List.take_append_drop 24 ((((((((words1.drop 24).drop 24).drop 24).drop 24).drop 24).drop 24).drop 24).drop 24), List.all_append, w_t9, ← List.take_append_drop 24 (((((((((words1.drop 24).drop 24).drop 24).drop 24).drop 24).drop 24).drop 24).drop 24).drop 24), List.all_append, w_t10, ← List.take_append_drop 24 ((((((((((words1.drop 24).drop 24).drop 24).drop 24).drop 24).drop 24).drop 24).drop 24).drop 24).drop 24), List.all_append, w_t11, w_t12]
  rfl
set_option maxRecDepth 65536 in
theorem w_rest : rest_1_c.before args0 about1 = true := by decide +kernel
set_option maxRecDepth 65536 in
theorem w_case : (Jvm.Cond.and given_1 narrow_1).before args0 about1 = true := by decide +kernel
set_option maxRecDepth 65536 in
theorem w_consts : constsHeld consts_1 about1 := Jvm.Lit.constsHeldB_iff.mp (by decide +kernel)
theorem w_applies : (headSpec (Jvm.Cond.code x code maxLocals ret :: tables_1) room_1).applies x e0.platform about1 = true :=
  (Spec.applies_iff w_frames).mpr ⟨w_running, w_runnable, w_alone, w_named, w_hears, w_ripe, w_room, w_tables⟩
theorem atStart : AtStart classFile x code maxLocals ret World_1 tables_1 room_1 Calls_1 rest_1 Pre_1 launch0 p0 e0 about1 theMethod args0 below0 :=
  ⟨lists_1, trivial, launch0.admits_env _ _ _, launch0.least_env, fairChoices_fair.cas, fairChoices_fair.clock, w_frames, w_args, w_heap, w_applies, ⟨w_consts, trivial⟩, w_rest, w_case⟩
end start1
theorem witness_1 : WitnessClaimed_1 := ⟨start1.p0, start1.e0, start1.about1, start1.theMethod, start1.args0, start1.below0, start1.atStart⟩
end Jvm.Pilot.@@N@@
